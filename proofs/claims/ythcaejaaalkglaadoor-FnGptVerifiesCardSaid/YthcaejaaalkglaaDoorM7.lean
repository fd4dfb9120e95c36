/- Laws and walks on the road to the statement: P18, P19, P20, P21, P22, GptTold, P23, P24, P25. -/
import Derived.Test.YthcaejaaalkglaaDoorM6
/- Walks of functions, printed by a program of this claim. -/
namespace Go.Proofs.YthcaejaaalkglaaDoor.X
set_option linter.unusedVariables false
set_option linter.unusedSimpArgs false
open Go Go.RowKit

namespace P18
theorem bo124 : buildOK Tryd.prog 124 = true := by kernel_rfl
theorem ca49 : callable Tryd.prog 49 = true := by kernel_rfl
theorem ca68 : callable Tryd.prog 68 = true := by kernel_rfl
theorem ca73 : callable Tryd.prog 73 = true := by kernel_rfl
theorem ca74 : callable Tryd.prog 74 = true := by kernel_rfl
theorem ca99 : callable Tryd.prog 99 = true := by kernel_rfl
theorem cc112 : Tryd.prog.concrete 112 = true := by kernel_rfl
theorem fo99_0 : fieldOff Tryd.prog 99 0 = some 0 := by kernel_rfl
theorem fo99_7 : fieldOff Tryd.prog 99 7 = some 7 := by kernel_rfl
theorem fo99_9 : fieldOff Tryd.prog 99 9 = some 9 := by kernel_rfl
theorem me65_ReadAt : ∀ (v : Value) (w : World), (method (Tryd.prog.types.size + Made.depth) 65 v "ReadAt").run Tryd.prog w = .ok (99, v) w := fun v w => by kernel_rfl
theorem mi5 : elemInfo Tryd.prog 5 = some (.int .u8 0, 1) := by kernel_rfl
theorem pl124_0 : placeOf Tryd.prog 124 0 = some (0, 1) := by kernel_rfl
theorem sc53 : scalarB Tryd.prog 53 = true := by kernel_rfl
theorem sc97 : scalarB Tryd.prog 97 = true := by kernel_rfl
theorem ze124 : zeroL Tryd.prog 124 = some [.nilIface] := by kernel_rfl

end P18
open P18

set_option maxRecDepth 100000 in
set_option maxHeartbeats 1000000 in
theorem c_loadE (w : World) (p f : Nat) (bm bd L c : Nat) (ds : List UInt8) (hm : w.cell? ⟨bm, 0, none⟩ = some (.slice (some ⟨bd, 0, none⟩) L c)) (hd : RB w (some ⟨bd, 0, none⟩) L ds) (hL : 512 ≤ L ∧ L ≤ 1000000000) (hLc : L ≤ c) (g : List UInt8) (pr rb ini : Bool) (crc my oth fi la : Int) (hp : w.heap[p]? = some (.cells (tbC none 0 0 512 512 g pr rb 128 128 (f : Int) crc my oth fi la ini).toArray 99 (0, 0))) (hne : p ≠ bm ∧ p ≠ bd) (hf : 512 * f + 16384 ≤ L) : Calls Tryd.prog 58 #[.iface 65 (.pointer (some ⟨bm, 0, none⟩)), .pointer (some ⟨p, 0, none⟩), .int .i64 512, .int .i64 512] w (Ret fun v w' => Fr [p] w w' ∧ ∃ A e, v = .tuple #[.pointer A, e] ∧ Ifc e ∧ isIf e = !(decide (crc = crc32 (pcs ds (512 * f) 16384))) ∧ (crc ≠ crc32 (pcs ds (512 * f) 16384) → ∃ x, e = .iface 112 (.pointer x)) ∧ (crc = crc32 (pcs ds (512 * f) 16384) → A = some ⟨p, 0, none⟩ ∧ ∃ D cap l, l.map Prod.snd = usedC ((pcs ds (512 * f) 16384)) 128 ∧ l.length ≤ 128 ∧ OR 100 1 w [p] w' (⟨p, .cells (tbC D l.length cap 512 512 g pr rb 128 128 (f : Int) crc my oth fi la ini).toArray 99 (0, 0), true⟩ :: ents 103 l) D l.length cap (ptrs l))) := by
  refine enter (fun ρ => .tuple #[ρ 8, ρ 9]) Tryd.func58 rfl rfl rfl (res2 rfl) ?_
  have H := SH.rw1 hp
  have hbm := cell_lt0 hm
  have hbd := hd.lt (by omega)
  have hdl := hd.1
  have hal : (pcs ds (512 * f) 16384).length = 16384 := pcs_len (by omega)
  refine sq ?_
  refine rg ?_
  refine asg (v := .pointer _) rfl rfl ?_
  refine asg (v := .nilIface) rfl rfl ?_
  refine nl ?_
  refine then_n ?_
  refine sq ?_
  refine rg ?_
  refine mv (v := .pointer _) rfl rfl ?_
  refine cl ca73 (c_calcLoc _ p (f : Int) 512 128 128 (cell_at (H.look (b := p))) (cell_at (H.look (b := p))) (cell_at (H.look (b := p))) (cell_at (H.look (b := p))) (by omega) (by decide) ((512 * f : Nat) : Int) 16384 (by omega) rfl (by omega) (by decide)) rfl ?_
  rintro _ w1 ⟨rfl, F⟩
  replace H := H.keep F; clear F
  refine mv (v := .tuple _) rfl rfl ?_
  refine xt rfl rfl rfl ?_
  refine xt rfl rfl rfl ?_
  refine asg (v := .int .i64 _) rfl rfl ?_
  refine asg (v := .int .i64 _) rfl rfl ?_
  refine nl ?_
  refine then_n ?_
  refine sq ?_
  refine rg ?_
  skip
  refine mv (v := .int .i64 _) rfl rfl ?_
  have hsz := H.size
  refine mkB H rfl rfl Tryd.underlying30 mi5 (by omega) (by omega) (by omega) (by omega) rfl ?_
  clear H; intro b1 w2 hb1 H _
  refine asg (v := .slice _ _ _) rfl rfl ?_
  refine nl ?_
  refine then_n ?_
  refine sq ?_
  refine rg ?_
  first | refine mv (v := .nilIface) rfl rfl ?_ | refine mv (v := .iface _ _) rfl rfl ?_ | refine mv rfl rfl ?_
  refine mv (v := .slice _ _ _) rfl rfl ?_
  refine mv (v := .int .i64 _) rfl rfl ?_
  refine mc rfl me65_ReadAt ca99 (c_readAt _ bm bd b1 L c (512 * f) 0 16384 16384 _ ds (List.replicate 16384 0) (H.fr.cell hm (by simpa using Ne.symm hne.1)) (hd.now H.fr (by simpa using Ne.symm hne.2)) (H.look (b := b1)) ⟨fun h => by simp at hbm; omega, fun h => by omega⟩ (by omega) (by omega) (by decide) (by rw [List.length_replicate]; decide) (by omega)) rfl ?_
  rintro _ w3 ⟨rfl, F, hnew⟩
  replace H := H.put (b := b1) F hnew; clear F hnew
  replace H := sh_cells0 H (congrArg Bs (pAt_all (by rw [hal, List.length_replicate])))
  refine mv (v := .tuple _) rfl rfl ?_
  refine xt rfl rfl rfl ?_
  refine xt rfl rfl rfl ?_
  refine asg (v := .int .i64 _) rfl rfl ?_
  first | refine asg (v := .nilIface) rfl rfl ?_ | refine asg (v := .iface _ _) rfl rfl ?_ | refine asg rfl rfl ?_
  refine nl ?_
  refine then_n ?_
  refine sq ?_
  refine sq ?_
  refine rg ?_
  first | refine mv (v := .nilIface) rfl rfl ?_ | refine mv (v := .iface _ _) rfl rfl ?_ | refine mv rfl rfl ?_
  first | refine neqI1 rfl Tryd.underlying74 rfl ?_ | refine neqI0 rfl Tryd.underlying74 rfl ?_ | refine neqIG rfl Tryd.underlying74 (by assumption) rfl ?_
  refine nl ?_
  refine then_n ?_
  first | refine cF rfl rfl ?_ | refine cbF rfl rfl ?_   -- test 1
  refine sk ?_
  refine then_n ?_
  refine sq ?_
  refine sq ?_
  refine rg ?_
  refine mv (v := .int .i64 _) rfl rfl ?_
  refine mv (v := .slice _ _ _) rfl rfl ?_
  refine lnS rfl Tryd.underlying30 rfl ?_
  refine neq rfl rfl rfl ?_
  refine nl ?_
  refine then_n ?_
  first | refine cF rfl (by omega) ?_ | refine cbF rfl (by omega) ?_   -- test 2
  refine sk ?_
  refine then_n ?_
  refine sq ?_
  refine rg ?_
  refine mv (v := .slice _ _ _) rfl rfl ?_
  refine cl ca68 (c_zzCrc _ _ _ _ (pcs ds (512 * f) 16384) (RB.allm (b := b1) H hal) (by decide)) rfl ?_
  rintro _ w4 ⟨rfl, F⟩
  replace H := H.keep F; clear F
  refine asg (v := .int .u32 _) rfl rfl ?_
  refine nl ?_
  refine then_n ?_
  refine sq ?_
  refine sq ?_
  refine rg ?_
  refine mv (v := .pointer _) rfl rfl ?_
  first | refine nc rfl rfl ?_ | refine nci rfl rfl ?_
  refine fa rfl fo99_9 rfl ?_
  first | refine ld H rfl sc53 rfl rfl ?_ | refine lc rfl (by first | assumption | exact H.fr.cell (by assumption) (by simp)) sc53 rfl ?_ | refine ld H rfl sc53 (by assumption) rfl ?_
  refine mv (v := .int .u32 _) rfl rfl ?_
  refine neq rfl rfl rfl ?_
  refine nl ?_
  refine then_n ?_
  first | refine cd rfl (fun hc3 => ?_) (fun hc3 => ?_) | refine cn rfl (fun hc3 => ?_) (fun hc3 => ?_)   -- test 3
  · refine sq ?_
    refine rg ?_
    refine cl ca49 (c_errNew _ _) rfl ?_
    rintro _ w5 ⟨⟨be2, rfl⟩, F⟩
    replace H := H.keep F; clear F
    refine bu (out := ?o1) ze124 bo124 ?f1 rfl ?_
    case f1 =>
      first | refine FL.one (v := .nilIface) rfl pl124_0 rfl (by decide) ?_ | refine FL.one (v := .iface _ _) rfl pl124_0 rfl (by decide) ?_
      exact FL.nil
    refine bx (v := .agg _) H rfl rfl rfl ?_
    clear H; intro b3 w6 hb3 H _
    refine mi (v := .pointer _) rfl cc112 rfl ?_
    refine asg (v := .pointer _) rfl rfl ?_
    first | refine asg (v := .nilIface) rfl rfl ?_ | refine asg (v := .iface _ _) rfl rfl ?_ | refine asg rfl rfl ?_
    refine nl ?_
    refine then_n ?_
    refine rt ?_
    refine then_r ?_
    refine fin_r ?_
    exact ⟨H.fr, _, _, rfl, .inr ⟨_, _, rfl⟩, by rw [decide_eq_false hc3]; rfl, fun _ => ⟨_, rfl⟩, fun h => absurd h hc3⟩
  · refine sk ?_
    refine then_n ?_
    refine sq ?_
    refine rg ?_
    refine mv (v := .slice _ _ _) rfl rfl ?_
    refine mv (v := .pointer _) rfl rfl ?_
    first | refine nc rfl rfl ?_ | refine nci rfl rfl ?_
    refine fa rfl fo99_7 rfl ?_
    first | refine ld H rfl sc53 rfl rfl ?_ | refine lc rfl (by first | assumption | exact H.fr.cell (by assumption) (by simp)) sc53 rfl ?_ | refine ld H rfl sc53 (by assumption) rfl ?_
    refine cvi rfl rfl Tryd.underlying3 (by first | exact w_i64 (by omega) | exact w_i64 (rng_i64 _) | rfl) rfl ?_
    refine mv (v := .int .i64 _) rfl rfl ?_
    refine mv (v := .int .i64 _) rfl rfl ?_
    refine cl ca74 (c_readArr _ b1 16384 16384 128 (pcs ds (512 * f) 16384) (RB.allm (b := b1) H hal) (by decide) (by decide) (by decide)) rfl ?_
    rintro _ w7 ⟨D9, cap9, l9, rfl, hl9, hll9, O⟩
    replace O := O.joinN H ents_m
    simp only [List.cons_append, List.nil_append] at O
    have H := O.sh
    refine mv (v := .tuple _) rfl rfl ?_
    refine xt rfl rfl rfl ?_
    refine xt rfl rfl rfl ?_
    refine asg (v := .slice _ _ _) rfl rfl ?_
    first | refine asg (v := .nilIface) rfl rfl ?_ | refine asg (v := .iface _ _) rfl rfl ?_ | refine asg rfl rfl ?_
    refine nl ?_
    refine then_n ?_
    refine sq ?_
    refine sq ?_
    refine rg ?_
    first | refine mv (v := .nilIface) rfl rfl ?_ | refine mv (v := .iface _ _) rfl rfl ?_ | refine mv rfl rfl ?_
    first | refine neqI1 rfl Tryd.underlying74 rfl ?_ | refine neqI0 rfl Tryd.underlying74 rfl ?_ | refine neqIG rfl Tryd.underlying74 (by assumption) rfl ?_
    refine nl ?_
    refine then_n ?_
    first | refine cF rfl rfl ?_ | refine cbF rfl rfl ?_   -- test 4
    refine sk ?_
    refine then_n ?_
    refine sq ?_
    refine rg ?_
    refine mv (v := .pointer _) rfl rfl ?_
    refine mv (v := .slice _ _ _) rfl rfl ?_
    first | refine nc rfl rfl ?_ | refine nci rfl rfl ?_
    refine fa rfl fo99_0 rfl ?_
    refine st (v := .slice _ _ _) H rfl rfl sc97 rfl (by show 0 + 0 < 15; decide) (by omega) ?_
    intro w95 H1 F; replace O := O.put F H1.look; clear H H1 F; have H := O.sh
    refine nl ?_
    refine then_n ?_
    refine sq ?_
    refine rg ?_
    refine mv (v := .pointer _) rfl rfl ?_
    refine asg (v := .pointer _) rfl rfl ?_
    refine asg (v := .nilIface) rfl rfl ?_
    refine nl ?_
    refine then_n ?_
    refine rt ?_
    refine fin_r ?_
    have hcc : crc = crc32 (pcs ds (512 * f) 16384) := Classical.not_not.1 hc3
    exact ⟨H.fr, _, _, rfl, .inl rfl, by rw [decide_eq_true hcc]; rfl, fun h => absurd hcc h, fun _ => ⟨rfl, D9, cap9, l9, hl9, hll9, O.sub (List.Sublist.cons _ (List.Sublist.refl _))⟩⟩

end Go.Proofs.YthcaejaaalkglaaDoor.X
/- Walks of functions, printed by a program of this claim. -/
namespace Go.Proofs.YthcaejaaalkglaaDoor.X
set_option linter.unusedVariables false
set_option linter.unusedSimpArgs false
open Go Go.RowKit

namespace P19
theorem bo124 : buildOK Tryd.prog 124 = true := by kernel_rfl
theorem ca49 : callable Tryd.prog 49 = true := by kernel_rfl
theorem ca57 : callable Tryd.prog 57 = true := by kernel_rfl
theorem ca58 : callable Tryd.prog 58 = true := by kernel_rfl
theorem ca99 : callable Tryd.prog 99 = true := by kernel_rfl
theorem cc112 : Tryd.prog.concrete 112 = true := by kernel_rfl
theorem me65_ReadAt : ∀ (v : Value) (w : World), (method (Tryd.prog.types.size + Made.depth) 65 v "ReadAt").run Tryd.prog w = .ok (99, v) w := fun v w => by kernel_rfl
theorem mi5 : elemInfo Tryd.prog 5 = some (.int .u8 0, 1) := by kernel_rfl
theorem pl124_0 : placeOf Tryd.prog 124 0 = some (0, 1) := by kernel_rfl
theorem ze124 : zeroL Tryd.prog 124 = some [.nilIface] := by kernel_rfl

end P19
open P19

set_option maxRecDepth 100000 in
set_option maxHeartbeats 1000000 in
theorem c_readPrim (w : World) (bm bd L c : Nat) (ds : List UInt8) (hm : w.cell? ⟨bm, 0, none⟩ = some (.slice (some ⟨bd, 0, none⟩) L c)) (hd : RB w (some ⟨bd, 0, none⟩) L ds) (hL : 512 ≤ L ∧ L ≤ 1000000000) (hLc : L ≤ c) (hL2 : 17408 ≤ L) (hcan : hdrGood ds 512 = true → fld ds 584 8 = 2 ∧ fld ds 592 4 = 128 ∧ fld ds 596 4 = 128) : Calls Tryd.prog 52 #[.iface 65 (.pointer (some ⟨bm, 0, none⟩)), .int .i64 512, .int .i64 512] w (Ret fun v w' => Fr [] w w' ∧ ∃ A e, v = .tuple #[.pointer A, e] ∧ Ifc e ∧ isIf e = !((hdrGood ds 512 && decide (fld ds 600 4 = crc32 (pcs ds 1024 16384)))) ∧ ((hdrGood ds 512 && decide (fld ds 600 4 = crc32 (pcs ds 1024 16384))) = false → ∃ x, e = .iface 112 (.pointer x)) ∧ ((hdrGood ds 512 && decide (fld ds 600 4 = crc32 (pcs ds 1024 16384))) = true → ∃ p, A = some ⟨p, 0, none⟩ ∧ ∃ D cap l, l.map Prod.snd = usedC (pcs ds 1024 16384) 128 ∧ l.length ≤ 128 ∧ OR 100 1 w [] w' (⟨p, .cells (tbC D l.length cap 512 512 (gT (pcs ds 568 16)) (protB (pcs ds 0 512) (fld ds 544 8 % 4294967296)) false 128 128 2 (fld ds (600) 4) (fld ds (536) 8) (fld ds (544) 8) (fld ds (552) 8) (fld ds (560) 8) true).toArray 99 (0, 0), true⟩ :: ents 103 l) D l.length cap (ptrs l))) := by
  refine enter (fun ρ => .tuple #[ρ 6, ρ 7]) Tryd.func52 rfl rfl rfl (res2 rfl) ?_
  have H := SH.nil w
  have hbm := cell_lt0 hm
  have hbd := hd.lt (by omega)
  have hdl := hd.1
  have hbl : (pcs ds 0 1024).length = 1024 := pcs_len (by omega)
  refine sq ?_
  refine rg ?_
  refine asg (v := .pointer _) rfl rfl ?_
  refine asg (v := .nilIface) rfl rfl ?_
  refine nl ?_
  refine then_n ?_
  refine sq ?_
  refine rg ?_
  refine mv (v := .int .i64 _) rfl rfl ?_
  refine mul (c := 1024) rfl rfl rfl rfl ?_
  have hsz := H.size
  refine mkB H rfl rfl Tryd.underlying30 mi5 (by omega) (by omega) (by omega) (by omega) rfl ?_
  clear H; intro b1 w1 hb1 H _
  refine asg (v := .slice _ _ _) rfl rfl ?_
  refine nl ?_
  refine then_n ?_
  refine sq ?_
  refine rg ?_
  first | refine mv (v := .nilIface) rfl rfl ?_ | refine mv (v := .iface _ _) rfl rfl ?_ | refine mv rfl rfl ?_
  refine mv (v := .slice _ _ _) rfl rfl ?_
  refine mc rfl me65_ReadAt ca99 (c_readAt _ bm bd b1 L c 0 0 1024 1024 _ ds (List.replicate 1024 0) (H.fr.cell hm (by simp)) (hd.keep H.fr) (H.look (b := b1)) ⟨fun h => by simp at hbm; omega, fun h => by omega⟩ (by omega) (by omega) (by decide) (by rw [List.length_replicate]; decide) (by omega)) rfl ?_
  rintro _ w2 ⟨rfl, F, hnew⟩
  replace H := H.put (b := b1) F hnew; clear F hnew
  replace H := sh_cells0 H (congrArg Bs (pAt_all (by rw [hbl, List.length_replicate])))
  refine mv (v := .tuple _) rfl rfl ?_
  refine xt rfl rfl rfl ?_
  refine xt rfl rfl rfl ?_
  refine asg (v := .int .i64 _) rfl rfl ?_
  first | refine asg (v := .nilIface) rfl rfl ?_ | refine asg (v := .iface _ _) rfl rfl ?_ | refine asg rfl rfl ?_
  refine nl ?_
  refine then_n ?_
  refine sq ?_
  refine sq ?_
  refine rg ?_
  first | refine mv (v := .nilIface) rfl rfl ?_ | refine mv (v := .iface _ _) rfl rfl ?_ | refine mv rfl rfl ?_
  first | refine neqI1 rfl Tryd.underlying74 rfl ?_ | refine neqI0 rfl Tryd.underlying74 rfl ?_ | refine neqIG rfl Tryd.underlying74 (by assumption) rfl ?_
  refine nl ?_
  refine then_n ?_
  first | refine cF rfl rfl ?_ | refine cbF rfl rfl ?_   -- test 1
  refine sk ?_
  refine then_n ?_
  refine sq ?_
  refine sq ?_
  refine rg ?_
  refine mv (v := .int .i64 _) rfl rfl ?_
  refine mv (v := .slice _ _ _) rfl rfl ?_
  refine lnS rfl Tryd.underlying30 rfl ?_
  refine neq rfl rfl rfl ?_
  refine nl ?_
  refine then_n ?_
  first | refine cF rfl rfl ?_ | refine cbF rfl rfl ?_   -- test 2
  refine sk ?_
  refine then_n ?_
  refine sq ?_
  refine rg ?_
  refine mv (v := .slice _ _ _) rfl rfl ?_
  refine mv (v := .int .i64 _) rfl rfl ?_
  refine mv (v := .int .i64 _) rfl rfl ?_
  refine cl ca57 (c_tabFrom _ b1 1024 1024 _ (pcs ds 0 1024) (H.look (b := b1)) (by decide) (by decide) (by omega) (by omega)) rfl ?_
  rintro _ w3 ⟨F, hnew, A9, e9, rfl, hie, hif, hok⟩
  obtain ⟨H9, hlt⟩ := H.put2 F hnew
  clear H F hnew; have H := H9; clear H9
  refine mv (v := .tuple _) rfl rfl ?_
  refine xt rfl rfl rfl ?_
  refine xt rfl rfl rfl ?_
  refine asg (v := .pointer _) rfl rfl ?_
  first | refine asg (v := .nilIface) rfl rfl ?_ | refine asg (v := .iface _ _) rfl rfl ?_ | refine asg rfl rfl ?_
  refine nl ?_
  refine then_n ?_
  refine sq ?_
  refine sq ?_
  refine rg ?_
  first | refine mv (v := .nilIface) rfl rfl ?_ | refine mv (v := .iface _ _) rfl rfl ?_ | refine mv rfl rfl ?_
  first | refine neqI1 rfl Tryd.underlying74 rfl ?_ | refine neqI0 rfl Tryd.underlying74 rfl ?_ | refine neqIG rfl Tryd.underlying74 (by assumption) rfl ?_
  refine nl ?_
  refine then_n ?_
  first | refine cd rfl (fun hc3 => ?_) (fun hc3 => ?_) | refine cn rfl (fun hc3 => ?_) (fun hc3 => ?_)   -- test 3
  · have hgd : hdrGood ds 512 = false := by have h9 := hif.symm.trans hc3; rw [hdr0] at h9; simpa using h9
    refine sq ?_
    refine rg ?_
    refine cl ca49 (c_errNew _ _) rfl ?_
    rintro _ w4 ⟨⟨be2, rfl⟩, F⟩
    replace H := H.keep F; clear F
    refine bu (out := ?o1) ze124 bo124 ?f1 rfl ?_
    case f1 =>
      first | refine FL.one (v := .nilIface) rfl pl124_0 rfl (by decide) ?_ | refine FL.one (v := .iface _ _) rfl pl124_0 rfl (by decide) ?_
      exact FL.nil
    refine bx (v := .agg _) H rfl rfl rfl ?_
    clear H; intro b3 w5 hb3 H _
    refine mi (v := .pointer _) rfl cc112 rfl ?_
    refine asg (v := .pointer _) rfl rfl ?_
    first | refine asg (v := .nilIface) rfl rfl ?_ | refine asg (v := .iface _ _) rfl rfl ?_ | refine asg rfl rfl ?_
    refine nl ?_
    refine then_n ?_
    refine rt ?_
    refine then_r ?_
    refine fin_r ?_
    exact ⟨H.fr, _, _, rfl, .inr ⟨_, _, rfl⟩, by rw [hgd]; rfl, fun _ => ⟨_, rfl⟩, fun h => by rw [hgd] at h; cases h⟩
  · have hgd : hdrGood ds 512 = true := by have h9 := hif.symm.trans hc3; rw [hdr0] at h9; simpa using h9
    obtain ⟨p, rfl, hp1, hp2⟩ := hok (by rw [hdr0]; exact hgd)
    obtain ⟨k1, k2, k3⟩ := hcan hgd
    simp only [pcs0 (show 568 + 16 ≤ 1024 by decide), pcs0 (show 0 + 512 ≤ 1024 by decide), fld0 (show 544 + 8 ≤ 1024 by decide), fld0 (show 592 + 4 ≤ 1024 by decide), fld0 (show 596 + 4 ≤ 1024 by decide), fld0 (show 584 + 8 ≤ 1024 by decide), fld0 (show 600 + 4 ≤ 1024 by decide), fld0 (show 536 + 8 ≤ 1024 by decide), fld0 (show 552 + 8 ≤ 1024 by decide), fld0 (show 560 + 8 ≤ 1024 by decide), k1, k2, k3] at hp2
    replace H := H.add hlt hp1 hp2; clear hp2
    refine sk ?_
    refine then_n ?_
    refine sq ?_
    refine rg ?_
    first | refine mv (v := .nilIface) rfl rfl ?_ | refine mv (v := .iface _ _) rfl rfl ?_ | refine mv rfl rfl ?_
    refine mv (v := .pointer _) rfl rfl ?_
    refine mv (v := .int .i64 _) rfl rfl ?_
    refine mv (v := .int .i64 _) rfl rfl ?_
    refine cl ca58 (c_loadE _ p 2 bm bd L c ds (H.fr.cell hm (by simp)) (hd.keep H.fr) hL hLc _ _ _ _ _ _ _ _ _ (H.look (b := p)) ⟨fun h => by simp at hbm; have := hlt.2; omega, fun h => by have := hlt.2; omega⟩ (by omega)) rfl ?_
    rintro _ w6 ⟨F, A10, e10, rfl, hie2, hif2, hce, hok2⟩
    refine xt rfl rfl rfl ?_
    refine xt rfl rfl rfl ?_
    refine asg (v := .pointer _) rfl rfl ?_
    first | refine asg (v := .nilIface) rfl rfl ?_ | refine asg (v := .iface _ _) rfl rfl ?_ | refine asg rfl rfl ?_
    refine nl ?_
    refine then_n ?_
    refine rt ?_
    refine fin_r ?_
    have hge : w.heap.size ≤ p := Nat.le_trans hlt.2 hp1
    refine ⟨H.fr.then F (by simpa using hge), A10, e10, rfl, hie2, ?_, ?_, ?_⟩
    · rw [hgd, Bool.true_and]; exact hif2
    · rw [hgd, Bool.true_and]; exact fun h => hce (of_decide_eq_false h)
    · rw [hgd, Bool.true_and]
      intro h
      obtain ⟨rfl, D, cap, l, h1, h2, O⟩ := hok2 (of_decide_eq_true h)
      exact ⟨p, rfl, D, cap, l, h1, h2, O.under H.fr hge⟩

end Go.Proofs.YthcaejaaalkglaaDoor.X
/- Walks of functions, printed by a program of this claim. -/
namespace Go.Proofs.YthcaejaaalkglaaDoor.X
set_option linter.unusedVariables false
set_option linter.unusedSimpArgs false
open Go Go.RowKit

namespace P20
theorem ca100 : callable Tryd.prog 100 = true := by kernel_rfl
theorem ca49 : callable Tryd.prog 49 = true := by kernel_rfl
theorem ca55 : callable Tryd.prog 55 = true := by kernel_rfl
theorem ca56 : callable Tryd.prog 56 = true := by kernel_rfl
theorem ca58 : callable Tryd.prog 58 = true := by kernel_rfl
theorem ca99 : callable Tryd.prog 99 = true := by kernel_rfl
theorem fo94_0 : fieldOff Tryd.prog 94 0 = some 0 := by kernel_rfl
theorem fo94_1 : fieldOff Tryd.prog 94 1 = some 1 := by kernel_rfl
theorem fo99_1 : fieldOff Tryd.prog 99 1 = some 1 := by kernel_rfl
theorem fo99_10 : fieldOff Tryd.prog 99 10 = some 10 := by kernel_rfl
theorem fo99_11 : fieldOff Tryd.prog 99 11 = some 11 := by kernel_rfl
theorem fo99_14 : fieldOff Tryd.prog 99 14 = some 14 := by kernel_rfl
theorem fo99_2 : fieldOff Tryd.prog 99 2 = some 2 := by kernel_rfl
theorem fo99_4 : fieldOff Tryd.prog 99 4 = some 4 := by kernel_rfl
theorem me65_ReadAt : ∀ (v : Value) (w : World), (method (Tryd.prog.types.size + Made.depth) 65 v "ReadAt").run Tryd.prog w = .ok (99, v) w := fun v w => by kernel_rfl
theorem me65_Seek : ∀ (v : Value) (w : World), (method (Tryd.prog.types.size + Made.depth) 65 v "Seek").run Tryd.prog w = .ok (100, v) w := fun v w => by kernel_rfl
theorem mi5 : elemInfo Tryd.prog 5 = some (.int .u8 0, 1) := by kernel_rfl
theorem sc2 : scalarB Tryd.prog 2 = true := by kernel_rfl
theorem sc28 : scalarB Tryd.prog 28 = true := by kernel_rfl
theorem sc3 : scalarB Tryd.prog 3 = true := by kernel_rfl
theorem sc30 : scalarB Tryd.prog 30 = true := by kernel_rfl
theorem sc4 : scalarB Tryd.prog 4 = true := by kernel_rfl

end P20
open P20

set_option maxRecDepth 100000 in
set_option maxHeartbeats 1000000 in
theorem c_seek (w : World) (bm bd L c : Nat) (x1 x2 x3 : Value) (hb : w.heap[bm]? = some (.cells [.slice (some ⟨bd, 0, none⟩) L c, x1, x2, x3].toArray 94 (0, 0))) (hL : L ≤ 1000000000) : Calls Tryd.prog 100 #[.pointer (some ⟨bm, 0, none⟩), .int .i64 0, .int .i64 2] w (Ret fun v w' => v = .tuple #[.int .i64 (L : Int), .nilIface] ∧ Fr [bm] w w' ∧ w'.heap[bm]? = some (.cells [.slice (some ⟨bd, 0, none⟩) L c, .int .i64 (L : Int), x2, x3].toArray 94 (0, 0))) := by
  refine enter (fun ρ => .tuple #[ρ 6, ρ 7]) Tryd.func100 rfl rfl rfl (res2 rfl) ?_
  have H := SH.rw1 hb
  refine sq ?_
  refine rg ?_
  refine asg (v := .int .i64 _) rfl rfl ?_
  refine asg (v := .nilIface) rfl rfl ?_
  refine nl ?_
  refine then_n ?_
  refine sq ?_
  refine sq ?_
  refine rg ?_
  refine mv (v := .int .i64 _) rfl rfl ?_
  refine nl ?_
  refine then_n ?_
  refine bk ?_
  refine sq ?_
  refine rg ?_
  refine eql rfl rfl rfl ?_
  refine asg (v := .bool _) rfl rfl ?_
  refine nl ?_
  refine then_n ?_
  first | refine cF rfl (by decide) ?_ | refine cbF rfl (by decide) ?_   -- test 1
  refine sq ?_
  refine rg ?_
  refine eql rfl rfl rfl ?_
  refine asg (v := .bool _) rfl rfl ?_
  refine nl ?_
  refine then_n ?_
  first | refine cT rfl (by decide) ?_ | refine cbT rfl (by decide) ?_   -- test 2
  refine rg ?_
  refine mv (v := .int .i64 _) rfl rfl ?_
  refine mv (v := .pointer _) rfl rfl ?_
  first | refine nc rfl rfl ?_ | refine nci rfl rfl ?_
  refine fa rfl fo94_0 rfl ?_
  first | refine ld H rfl sc30 rfl rfl ?_ | refine lc rfl (by first | assumption | exact H.fr.cell (by assumption) (by simp)) sc30 rfl ?_ | refine ld H rfl sc30 (by assumption) rfl ?_
  refine lnS rfl Tryd.underlying30 rfl ?_
  refine add rfl rfl (by first | exact w_i64 (by omega) | exact w_i64 (rng_i64 _) | rfl) rfl ?_
  refine asg (v := .int .i64 _) rfl rfl ?_
  refine nl ?_
  refine in_n ?_
  refine then_n ?_
  refine sq ?_
  refine sq ?_
  refine rg ?_
  refine mv (v := .int .i64 _) rfl rfl ?_
  refine lss rfl rfl rfl ?_
  refine nl ?_
  refine then_n ?_
  first | refine cF rfl (by omega) ?_ | refine cbF rfl (by omega) ?_   -- test 3
  refine sk ?_
  refine then_n ?_
  refine sq ?_
  refine rg ?_
  refine mv (v := .pointer _) rfl rfl ?_
  refine mv (v := .int .i64 _) rfl rfl ?_
  first | refine nc rfl rfl ?_ | refine nci rfl rfl ?_
  refine fa rfl fo94_1 rfl ?_
  refine st (v := .int .i64 _) H rfl rfl sc2 rfl (by first | decide | (simp only [List.length_set, List.length_cons, List.length_nil, List.length_replicate, List.length_append, Bs_length]; omega) | omega) (by omega) ?_
  clear H; intro w1 H _
  refine nl ?_
  refine then_n ?_
  refine sq ?_
  refine rg ?_
  refine mv (v := .int .i64 _) rfl rfl ?_
  refine asg (v := .int .i64 _) rfl rfl ?_
  refine asg (v := .nilIface) rfl rfl ?_
  refine nl ?_
  refine then_n ?_
  refine rt ?_
  refine fin_r ?_
  refine ⟨?_, H.fr, ?_⟩
  · exact congrArg (fun z => Value.tuple #[.int .i64 z, .nilIface]) (by omega)
  · exact H.look.trans (congrArg (fun z => some (Obj.cells [.slice (some ⟨bd, 0, none⟩) L c, .int .i64 z, x2, x3].toArray 94 (0, 0))) (by omega))

set_option maxRecDepth 100000 in
set_option maxHeartbeats 1000000 in
theorem c_seekSize (w : World) (bm bd L c : Nat) (x1 x2 x3 : Value) (hb : w.heap[bm]? = some (.cells [.slice (some ⟨bd, 0, none⟩) L c, x1, x2, x3].toArray 94 (0, 0))) (hL : L ≤ 1000000000) : Calls Tryd.prog 53 #[.iface 65 (.pointer (some ⟨bm, 0, none⟩))] w (Ret fun v w' => v = .tuple #[.int .i64 (L : Int), .nilIface] ∧ Fr [bm] w w' ∧ w'.heap[bm]? = some (.cells [.slice (some ⟨bd, 0, none⟩) L c, .int .i64 (L : Int), x2, x3].toArray 94 (0, 0))) := by
  refine enter (fun ρ => .tuple #[ρ 2, ρ 3]) Tryd.func53 rfl rfl rfl (res2 rfl) ?_
  have H := SH.rw1 hb
  refine sq ?_
  refine rg ?_
  refine asg (v := .int .i64 _) rfl rfl ?_
  refine asg (v := .nilIface) rfl rfl ?_
  refine nl ?_
  refine then_n ?_
  refine sq ?_
  refine rg ?_
  first | refine mv (v := .nilIface) rfl rfl ?_ | refine mv (v := .iface _ _) rfl rfl ?_ | refine mv rfl rfl ?_
  refine mc rfl me65_Seek ca100 (c_seek _ bm bd L c x1 x2 x3 (H.look (b := bm)) hL) rfl ?_
  rintro _ w1 ⟨rfl, F, hnew⟩
  replace H := H.put (b := bm) F hnew; clear F hnew
  refine xt rfl rfl rfl ?_
  refine xt rfl rfl rfl ?_
  refine asg (v := .int .i64 _) rfl rfl ?_
  first | refine asg (v := .nilIface) rfl rfl ?_ | refine asg (v := .iface _ _) rfl rfl ?_ | refine asg rfl rfl ?_
  refine nl ?_
  refine then_n ?_
  refine rt ?_
  refine fin_r ?_
  exact ⟨rfl, H.fr, H.look⟩

set_option maxRecDepth 100000 in
set_option maxHeartbeats 1000000 in
theorem c_readBack (w : World) (b f : Nat) (bm bd L c : Nat) (ds : List UInt8) (hm : w.cell? ⟨bm, 0, none⟩ = some (.slice (some ⟨bd, 0, none⟩) L c)) (hd : RB w (some ⟨bd, 0, none⟩) L ds) (hL : 512 ≤ L ∧ L ≤ 1000000000) (hLc : L ≤ c) (hb : 512 * b + 512 ≤ L) (hf : 512 * f + 16384 ≤ L) (hcan : hdrGood ds (512 * b) = true → fld ds (512 * b + 72) 8 = (f : Int) ∧ fld ds (512 * b + 80) 4 = 128 ∧ fld ds (512 * b + 84) 4 = 128) : Calls Tryd.prog 54 #[.iface 65 (.pointer (some ⟨bm, 0, none⟩)), .int .i64 512, .int .i64 512, .int .u64 (b : Int)] w (Ret fun v w' => Fr [] w w' ∧ ∃ A e, v = .tuple #[.pointer A, e] ∧ Ifc e ∧ isIf e = !((hdrGood ds (512 * b) && decide (fld ds (512 * b + 24) 8 = (b : Int)) && decide (fld ds (512 * b + 88) 4 = crc32 (pcs ds (512 * f) 16384)))) ∧ ((hdrGood ds (512 * b) && decide (fld ds (512 * b + 24) 8 = (b : Int)) && decide (fld ds (512 * b + 88) 4 = crc32 (pcs ds (512 * f) 16384))) = true → ∃ p, A = some ⟨p, 0, none⟩ ∧ ∃ D cap l, l.map Prod.snd = usedC (pcs ds (512 * f) 16384) 128 ∧ l.length ≤ 128 ∧ OR 100 1 w [] w' (⟨p, .cells (tbC D l.length cap 512 512 (gT (pcs ds (512 * b + 56) 16)) (protB (pcs ds 0 512) ((fld ds (512 * b + 24) 8) % 4294967296)) false 128 128 f (fld ds (512 * b + 88) 4) (fld ds (512 * b + 32) 8) (fld ds (512 * b + 24) 8) (fld ds (512 * b + 40) 8) (fld ds (512 * b + 48) 8) true).toArray 99 (0, 0), true⟩ :: ents 103 l) D l.length cap (ptrs l))) := by
  refine enter (fun ρ => .tuple #[ρ 8, ρ 9]) Tryd.func54 rfl rfl rfl (res2 rfl) ?_
  have H := SH.nil w
  have hbm := cell_lt0 hm
  have hbd := hd.lt (by omega)
  have hdl := hd.1
  have hbl : (pcs ds (512 * b) 512).length = 512 := pcs_len (by omega)
  have hbl0 : (pcs ds 0 512).length = 512 := pcs_len (by omega)
  refine sq ?_
  refine rg ?_
  refine asg (v := .pointer _) rfl rfl ?_
  refine asg (v := .nilIface) rfl rfl ?_
  refine nl ?_
  refine then_n ?_
  refine sq ?_
  refine rg ?_
  refine mv (v := .int .i64 _) rfl rfl ?_
  refine mkB H rfl rfl Tryd.underlying30 mi5 (by omega) (by omega) (by omega) (by omega) rfl ?_
  clear H; intro b1 w1 hb1 H _
  have hsz := H.size
  refine asg (v := .slice _ _ _) rfl rfl ?_
  refine nl ?_
  refine then_n ?_
  refine sq ?_
  refine rg ?_
  refine mv (v := .int .u64 _) rfl rfl ?_
  refine cvi rfl rfl Tryd.underlying2 (by first | exact w_i64 (by omega) | exact w_i64 (rng_i64 _) | rfl) rfl ?_
  refine mv (v := .int .i64 _) rfl rfl ?_
  refine mul (c := ((512 * b : Nat) : Int)) rfl rfl (by rw [w_i64 (by omega)]; omega) rfl ?_
  refine asg (v := .int .i64 _) rfl rfl ?_
  refine nl ?_
  refine then_n ?_
  refine sq ?_
  refine rg ?_
  first | refine mv (v := .nilIface) rfl rfl ?_ | refine mv (v := .iface _ _) rfl rfl ?_ | refine mv rfl rfl ?_
  refine mv (v := .slice _ _ _) rfl rfl ?_
  refine mv (v := .int .i64 _) rfl rfl ?_
  refine mc rfl me65_ReadAt ca99 (c_readAt _ bm bd b1 L c (512 * b) 0 512 512 _ ds (List.replicate 512 0) (H.fr.cell hm (by simp)) (hd.keep H.fr) (H.look (b := b1)) ⟨fun h => by simp at hbm; omega, fun h => by omega⟩ (by omega) (by omega) (by decide) (by rw [List.length_replicate]; decide) (by omega)) rfl ?_
  rintro _ w2 ⟨rfl, F, hnew⟩
  replace H := H.put (b := b1) F hnew; clear F hnew
  replace H := sh_cells0 H (congrArg Bs (pAt_all (by rw [hbl, List.length_replicate])))
  refine mv (v := .tuple _) rfl rfl ?_
  refine xt rfl rfl rfl ?_
  refine xt rfl rfl rfl ?_
  refine asg (v := .int .i64 _) rfl rfl ?_
  first | refine asg (v := .nilIface) rfl rfl ?_ | refine asg (v := .iface _ _) rfl rfl ?_ | refine asg rfl rfl ?_
  refine nl ?_
  refine then_n ?_
  refine sq ?_
  refine sq ?_
  refine rg ?_
  first | refine mv (v := .nilIface) rfl rfl ?_ | refine mv (v := .iface _ _) rfl rfl ?_ | refine mv rfl rfl ?_
  first | refine neqI1 rfl Tryd.underlying74 rfl ?_ | refine neqI0 rfl Tryd.underlying74 rfl ?_ | refine neqIG rfl Tryd.underlying74 (by assumption) rfl ?_
  refine nl ?_
  refine then_n ?_
  first | refine cF rfl rfl ?_ | refine cbF rfl rfl ?_   -- test 1
  refine sk ?_
  refine then_n ?_
  refine sq ?_
  refine sq ?_
  refine rg ?_
  refine mv (v := .int .i64 _) rfl rfl ?_
  refine mv (v := .slice _ _ _) rfl rfl ?_
  refine lnS rfl Tryd.underlying30 rfl ?_
  refine neq rfl rfl rfl ?_
  refine nl ?_
  refine then_n ?_
  first | refine cF rfl rfl ?_ | refine cbF rfl rfl ?_   -- test 2
  refine sk ?_
  refine then_n ?_
  refine sq ?_
  refine rg ?_
  refine mv (v := .slice _ _ _) rfl rfl ?_
  refine cl ca55 (c_readHdr _ b1 0 512 512 _ (pcs ds (512 * b) 512) (H.look (b := b1)) (by decide) (by decide) (by omega) (by omega)) rfl ?_
  rintro _ w3 ⟨F, hnew, hres⟩
  obtain ⟨A9, e9, rfl, hie, hif, hok⟩ := two_res hres
  obtain ⟨H9, hlt⟩ := H.put2 F hnew
  clear H hres F hnew; have H := H9; clear H9
  refine mv (v := .tuple _) rfl rfl ?_
  refine xt rfl rfl rfl ?_
  refine xt rfl rfl rfl ?_
  refine asg (v := .pointer _) rfl rfl ?_
  first | refine asg (v := .nilIface) rfl rfl ?_ | refine asg (v := .iface _ _) rfl rfl ?_ | refine asg rfl rfl ?_
  refine nl ?_
  refine then_n ?_
  refine sq ?_
  refine sq ?_
  refine rg ?_
  first | refine mv (v := .nilIface) rfl rfl ?_ | refine mv (v := .iface _ _) rfl rfl ?_ | refine mv rfl rfl ?_
  first | refine neqI1 rfl Tryd.underlying74 rfl ?_ | refine neqI0 rfl Tryd.underlying74 rfl ?_ | refine neqIG rfl Tryd.underlying74 (by assumption) rfl ?_
  refine nl ?_
  refine then_n ?_
  first | refine cd rfl (fun hc3 => ?_) (fun hc3 => ?_) | refine cn rfl (fun hc3 => ?_) (fun hc3 => ?_)   -- test 3
  · have hgd : hdrGood ds (512 * b) = false := by have h9 := hif.symm.trans hc3; rw [hdrA] at h9; simpa using h9
    refine sq ?_
    refine rg ?_
    refine cl ca49 (c_errNew _ _) rfl ?_
    rintro _ w4 ⟨⟨be2, rfl⟩, F⟩
    replace H := H.keep F; clear F
    refine asg (v := .pointer _) rfl rfl ?_
    first | refine asg (v := .nilIface) rfl rfl ?_ | refine asg (v := .iface _ _) rfl rfl ?_ | refine asg rfl rfl ?_
    refine nl ?_
    refine then_n ?_
    refine rt ?_
    refine then_r ?_
    refine fin_r ?_
    exact ⟨H.fr, _, _, rfl, .inr ⟨_, _, rfl⟩, by rw [hgd]; rfl, fun h => by rw [hgd] at h; cases h⟩
  · have hgd : hdrGood ds (512 * b) = true := by have h9 := hif.symm.trans hc3; rw [hdrA] at h9; simpa using h9
    obtain ⟨p, rfl, hp1, hp2⟩ := hok (by rw [hdrA]; exact hgd)
    obtain ⟨k1, k2, k3⟩ := hcan hgd
    simp only [Nat.zero_add, pcsA (show 56 + 16 ≤ 512 by decide), fldA (show 24 + 8 ≤ 512 by decide), fldA (show 32 + 8 ≤ 512 by decide), fldA (show 40 + 8 ≤ 512 by decide), fldA (show 48 + 8 ≤ 512 by decide), fldA (show 72 + 8 ≤ 512 by decide), fldA (show 80 + 4 ≤ 512 by decide), fldA (show 84 + 4 ≤ 512 by decide), fldA (show 88 + 4 ≤ 512 by decide), k1, k2, k3] at hp2
    replace H := H.add hlt hp1 hp2; clear hp2
    refine sk ?_
    refine then_n ?_
    refine sq ?_
    refine sq ?_
    refine rg ?_
    refine mv (v := .pointer _) rfl rfl ?_
    first | refine nc rfl rfl ?_ | refine nci rfl rfl ?_
    refine fa rfl fo99_10 rfl ?_
    first | refine ld H rfl sc28 rfl rfl ?_ | refine lc rfl (by first | assumption | exact H.fr.cell (by assumption) (by simp)) sc28 rfl ?_ | refine ld H rfl sc28 (by assumption) rfl ?_
    refine mv (v := .int .u64 _) rfl rfl ?_
    refine neq rfl rfl rfl ?_
    refine nl ?_
    refine then_n ?_
    first | refine cd rfl (fun hc4 => ?_) (fun hc4 => ?_) | refine cn rfl (fun hc4 => ?_) (fun hc4 => ?_)   -- test 4
    · refine sq ?_
      refine rg ?_
      refine cl ca49 (c_errNew _ _) rfl ?_
      rintro _ w5 ⟨⟨be3, rfl⟩, F⟩
      replace H := H.keep F; clear F
      refine asg (v := .pointer _) rfl rfl ?_
      first | refine asg (v := .nilIface) rfl rfl ?_ | refine asg (v := .iface _ _) rfl rfl ?_ | refine asg rfl rfl ?_
      refine nl ?_
      refine then_n ?_
      refine rt ?_
      refine then_r ?_
      refine fin_r ?_
      have hq : (hdrGood ds (512 * b) && decide (fld ds (512 * b + 24) 8 = (b : Int)) && decide (fld ds (512 * b + 88) 4 = crc32 (pcs ds (512 * f) 16384))) = false := by rw [hgd, decide_eq_false hc4]; rfl
      exact ⟨H.fr, _, _, rfl, .inr ⟨_, _, rfl⟩, by rw [hq]; rfl, fun h => by rw [hq] at h; cases h⟩
    · refine sk ?_
      refine then_n ?_
      refine sq ?_
      refine dr (by kernel_rfl) ?_   -- region 13
      have H := H.drew
      refine hold (fun _ => True) [] ?_
      refine tk (i := 0) rfl (by kernel_rfl) rfl trivial (fun _ _ => r_mv (v := .pointer _) rfl) ?_
      refine tk (i := 1) rfl (by kernel_rfl) rfl trivial (fun _ _ => r_mv (v := .pointer _) rfl) ?_
      refine tk (i := 2) rfl (by kernel_rfl) rfl trivial (fun _ _ => r_mv (v := .pointer _) rfl) ?_
      first | refine tk (i := 3) rfl (by kernel_rfl) rfl trivial (fun _ _ => r_nc rfl) ?_ | refine tk (i := 3) rfl (by kernel_rfl) rfl trivial (fun _ _ => r_nci rfl) ?_
      refine tk (i := 4) rfl (by kernel_rfl) rfl trivial (fun _ _ => r_fa rfl fo99_11) ?_
      refine tk (i := 6) rfl (by kernel_rfl) rfl trivial (fun _ _ => r_mv (v := .pointer _) rfl) ?_
      first | refine tk (i := 7) rfl (by kernel_rfl) rfl trivial (fun _ _ => r_nc rfl) ?_ | refine tk (i := 7) rfl (by kernel_rfl) rfl trivial (fun _ _ => r_nci rfl) ?_
      refine tk (i := 8) rfl (by kernel_rfl) rfl trivial (fun _ _ => r_fa rfl fo99_10) ?_
      refine unfree ?_
      refine holdH H [12, 15] ?_
      first | refine tk (i := 5) rfl (by kernel_rfl) rfl H (fun w' H => r_ld H rfl sc28 rfl) ?_ | refine tk (i := 5) rfl (by kernel_rfl) rfl H (fun w' H => r_lc rfl (by first | assumption | exact H.fr.cell (by assumption) (by simp)) sc28) ?_ | refine tk (i := 5) rfl (by kernel_rfl) rfl H (fun w' H => r_ld H rfl sc28 (by assumption)) ?_
      first | refine tk (i := 9) rfl (by kernel_rfl) rfl H (fun w' H => r_ld H rfl sc28 rfl) ?_ | refine tk (i := 9) rfl (by kernel_rfl) rfl H (fun w' H => r_lc rfl (by first | assumption | exact H.fr.cell (by assumption) (by simp)) sc28) ?_ | refine tk (i := 9) rfl (by kernel_rfl) rfl H (fun w' H => r_ld H rfl sc28 (by assumption)) ?_
      refine fk (i := 10) (by kernel_rfl) rfl rfl rfl ?_
      first | refine nc rfl rfl ?_ | refine nci rfl rfl ?_
      refine nl ?_
      refine then_n ?_
      refine ⟨H, ?_⟩
      refine tk (i := 11) rfl (by kernel_rfl) rfl H (fun w' H => r_fa rfl fo99_10) ?_
      refine fb (i := 12) (by kernel_rfl) rfl rfl rfl ?_
      refine st (v := .int .u64 _) H rfl rfl sc28 rfl (by first | decide | (simp only [List.length_set, List.length_cons, List.length_nil, List.length_replicate, List.length_append, Bs_length]; omega) | omega) (by omega) ?_
      clear H; intro w6 H _
      refine nl ?_
      refine then_n ?_
      refine fo (i := 13) (by kernel_rfl) rfl rfl ?_
      first | refine nc rfl rfl ?_ | refine nci rfl rfl ?_
      refine nl ?_
      refine then_n ?_
      refine holdH H [15] ?_
      refine tk (i := 14) rfl (by kernel_rfl) rfl H (fun w' H => r_fa rfl fo99_11) ?_
      refine fb (i := 15) (by kernel_rfl) rfl rfl rfl ?_
      refine st (v := .int .u64 _) H rfl rfl sc28 rfl (by first | decide | (simp only [List.length_set, List.length_cons, List.length_nil, List.length_replicate, List.length_append, Bs_length]; omega) | omega) (by omega) ?_
      clear H; intro w7 H _
      refine nl ?_
      refine then_n ?_
      refine dn (by kernel_rfl) ?_
      refine then_n ?_
      refine sq ?_
      refine rg ?_
      refine mv (v := .pointer _) rfl rfl ?_
      refine mv (v := .int .i64 _) rfl rfl ?_
      first | refine nc rfl rfl ?_ | refine nci rfl rfl ?_
      refine fa rfl fo99_1 rfl ?_
      refine st (v := .int .i64 _) H rfl rfl sc3 rfl (by first | decide | (simp only [List.length_set, List.length_cons, List.length_nil, List.length_replicate, List.length_append, Bs_length]; omega) | omega) (by omega) ?_
      clear H; intro w8 H _
      refine nl ?_
      refine then_n ?_
      refine sq ?_
      refine rg ?_
      refine mv (v := .pointer _) rfl rfl ?_
      refine mv (v := .int .i64 _) rfl rfl ?_
      first | refine nc rfl rfl ?_ | refine nci rfl rfl ?_
      refine fa rfl fo99_2 rfl ?_
      refine st (v := .int .i64 _) H rfl rfl sc3 rfl (by first | decide | (simp only [List.length_set, List.length_cons, List.length_nil, List.length_replicate, List.length_append, Bs_length]; omega) | omega) (by omega) ?_
      clear H; intro w9 H _
      refine nl ?_
      refine then_n ?_
      refine sq ?_
      refine rg ?_
      refine mv (v := .pointer _) rfl rfl ?_
      first | refine nc rfl rfl ?_ | refine nci rfl rfl ?_
      refine fa rfl fo99_14 rfl ?_
      refine st (v := .bool _) H rfl rfl sc4 rfl (by first | decide | (simp only [List.length_set, List.length_cons, List.length_nil, List.length_replicate, List.length_append, Bs_length]; omega) | omega) (by omega) ?_
      clear H; intro w10 H _
      refine nl ?_
      refine then_n ?_
      refine sq ?_
      refine rg ?_
      refine mv (v := .int .i64 _) rfl rfl ?_
      have hsz2 := H.size
      refine mkB H rfl rfl Tryd.underlying30 mi5 (by omega) (by omega) (by omega) (by omega) rfl ?_
      clear H; intro b4 w11 hb4 H _
      refine asg (v := .slice _ _ _) rfl rfl ?_
      refine nl ?_
      refine then_n ?_
      refine sq ?_
      refine rg ?_
      first | refine mv (v := .nilIface) rfl rfl ?_ | refine mv (v := .iface _ _) rfl rfl ?_ | refine mv rfl rfl ?_
      refine mv (v := .slice _ _ _) rfl rfl ?_
      refine mc rfl me65_ReadAt ca99 (c_readAt _ bm bd b4 L c 0 0 512 512 _ ds (List.replicate 512 0) (H.fr.cell hm (by simp)) (hd.keep H.fr) (H.look (b := b4)) ⟨fun h => by simp at hbm; omega, fun h => by omega⟩ (by omega) (by omega) (by decide) (by rw [List.length_replicate]; decide) (by omega)) rfl ?_
      rintro _ w12 ⟨rfl, F, hnew⟩
      replace H := H.put (b := b4) F hnew; clear F hnew
      replace H := sh_cells0 H (congrArg Bs (pAt_all (by rw [hbl0, List.length_replicate])))
      refine mv (v := .tuple _) rfl rfl ?_
      refine xt rfl rfl rfl ?_
      refine xt rfl rfl rfl ?_
      refine asg (v := .int .i64 _) rfl rfl ?_
      first | refine asg (v := .nilIface) rfl rfl ?_ | refine asg (v := .iface _ _) rfl rfl ?_ | refine asg rfl rfl ?_
      refine nl ?_
      refine then_n ?_
      refine sq ?_
      refine sq ?_
      refine rg ?_
      first | refine mv (v := .nilIface) rfl rfl ?_ | refine mv (v := .iface _ _) rfl rfl ?_ | refine mv rfl rfl ?_
      first | refine eqlI1 rfl Tryd.underlying74 rfl ?_ | refine eqlI0 rfl Tryd.underlying74 rfl ?_ | refine eqlIG rfl Tryd.underlying74 (by assumption) rfl ?_
      refine mv (v := .bool _) rfl rfl ?_
      first | refine spL (t := 87) (b := true) rfl ?_ | refine spT (t := 87) rfl rfl ?_   -- guard 1
      refine gy rfl ?_
      refine mv (v := .int .i64 _) rfl rfl ?_
      refine gy rfl ?_
      refine mv (v := .slice _ _ _) rfl rfl ?_
      refine gy rfl ?_
      refine lnS rfl Tryd.underlying30 rfl ?_
      refine gy rfl ?_
      refine eql rfl rfl rfl ?_
      refine pkT (v := .bool _) rfl rfl rfl ?_
      refine nl ?_
      refine then_n ?_
      first | refine cT rfl rfl ?_ | refine cbT rfl rfl ?_   -- test 5
      refine rg ?_
      refine mv (v := .pointer _) rfl rfl ?_
      refine mv (v := .slice _ _ _) rfl rfl ?_
      refine mv (v := .pointer _) rfl rfl ?_
      first | refine nc rfl rfl ?_ | refine nci rfl rfl ?_
      refine fa rfl fo99_11 rfl ?_
      first | refine ld H rfl sc28 rfl rfl ?_ | refine lc rfl (by first | assumption | exact H.fr.cell (by assumption) (by simp)) sc28 rfl ?_ | refine ld H rfl sc28 (by assumption) rfl ?_
      refine cvi (c := (fld ds (512 * b + 24) 8) % 4294967296) rfl rfl Tryd.underlying53 (m_u32 _) rfl ?_
      refine cl ca56 (c_readProt _ b4 0 512 (pcs ds 0 512) _ (RB.allm (b := b4) H hbl0) (by decide)) rfl ?_
      rintro _ w13 ⟨rfl, F⟩
      replace H := H.keep F; clear F
      first | refine nc rfl rfl ?_ | refine nci rfl rfl ?_
      refine fa rfl fo99_4 rfl ?_
      refine st (v := .bool _) H rfl rfl sc4 rfl (by first | decide | (simp only [List.length_set, List.length_cons, List.length_nil, List.length_replicate, List.length_append, Bs_length]; omega) | omega) (by omega) ?_
      clear H; intro w14 H _
      refine nl ?_
      refine then_n ?_
      refine sq ?_
      refine rg ?_
      first | refine mv (v := .nilIface) rfl rfl ?_ | refine mv (v := .iface _ _) rfl rfl ?_ | refine mv rfl rfl ?_
      refine mv (v := .pointer _) rfl rfl ?_
      refine mv (v := .int .i64 _) rfl rfl ?_
      refine mv (v := .int .i64 _) rfl rfl ?_
      refine cl ca58 (c_loadE _ p f bm bd L c ds (H.fr.cell hm (by simp)) (hd.keep H.fr) hL hLc _ _ _ _ _ _ _ _ _ (H.look (b := p)) ⟨fun h => by simp at hbm; have := hlt.2; omega, fun h => by have := hlt.2; omega⟩ (by omega)) rfl ?_
      rintro _ w15 ⟨F, A10, e10, rfl, hie2, hif2, hce, hok2⟩
      refine xt rfl rfl rfl ?_
      refine xt rfl rfl rfl ?_
      refine asg (v := .pointer _) rfl rfl ?_
      first | refine asg (v := .nilIface) rfl rfl ?_ | refine asg (v := .iface _ _) rfl rfl ?_ | refine asg rfl rfl ?_
      refine nl ?_
      refine then_n ?_
      refine rt ?_
      refine fin_r ?_
      have hge : w.heap.size ≤ p := Nat.le_trans hlt.2 hp1
      have hmy : fld ds (512 * b + 24) 8 = (b : Int) := Classical.not_not.1 hc4
      have hq : (hdrGood ds (512 * b) && decide (fld ds (512 * b + 24) 8 = (b : Int)) && decide (fld ds (512 * b + 88) 4 = crc32 (pcs ds (512 * f) 16384))) = decide (fld ds (512 * b + 88) 4 = crc32 (pcs ds (512 * f) 16384)) := by rw [hgd, decide_eq_true hmy]; rfl
      rw [hq]
      refine ⟨H.fr.then F (by simpa using hge), A10, e10, rfl, hie2, hif2, ?_⟩
      intro h
      obtain ⟨rfl, D, cap, l, h1, h2, O⟩ := hok2 (of_decide_eq_true h)
      exact ⟨p, rfl, D, cap, l, h1, h2, O.under H.fr hge⟩

end Go.Proofs.YthcaejaaalkglaaDoor.X
/- Walks of functions, printed by a program of this claim. -/
namespace Go.Proofs.YthcaejaaalkglaaDoor.X
set_option linter.unusedVariables false
set_option linter.unusedSimpArgs false
open Go Go.RowKit

namespace P21
theorem ca49 : callable Tryd.prog 49 = true := by kernel_rfl
theorem ca52 : callable Tryd.prog 52 = true := by kernel_rfl
theorem ca53 : callable Tryd.prog 53 = true := by kernel_rfl
theorem ca54 : callable Tryd.prog 54 = true := by kernel_rfl
theorem fo99_5 : fieldOff Tryd.prog 99 5 = some 5 := by kernel_rfl
theorem sc4 : scalarB Tryd.prog 4 = true := by kernel_rfl

end P21
open P21

set_option maxRecDepth 100000 in
set_option maxHeartbeats 1000000 in
theorem c_gptRead (w : World) (bm bd L c : Nat) (x1 x2 x3 : Value) (ds : List UInt8) (hm : w.heap[bm]? = some (.cells [.slice (some ⟨bd, 0, none⟩) L c, x1, x2, x3].toArray 94 (0, 0))) (hd : RB w (some ⟨bd, 0, none⟩) L ds) (hne : bm ≠ bd) (hL : 34816 ≤ L ∧ L ≤ 1000000000) (hLc : L ≤ c) (b f : Nat) (hLb : L = 512 * (b + 1)) (hf : 512 * f + 16384 ≤ L) (hcan1 : hdrGood ds 512 = true → fld ds 584 8 = 2 ∧ fld ds 592 4 = 128 ∧ fld ds 596 4 = 128) (hcan2 : hdrGood ds (512 * b) = true → fld ds (512 * b + 72) 8 = (f : Int) ∧ fld ds (512 * b + 80) 4 = 128 ∧ fld ds (512 * b + 84) 4 = 128) : Calls Tryd.prog 47 #[.iface 65 (.pointer (some ⟨bm, 0, none⟩)), .int .i64 512, .int .i64 512] w (Ret fun v w' => Fr [bm] w w' ∧ (∃ x, w'.heap[bm]? = some (.cells [.slice (some ⟨bd, 0, none⟩) L c, x, x2, x3].toArray 94 (0, 0))) ∧ ∃ A e, v = .tuple #[.pointer A, e] ∧ Ifc e ∧ isIf e = !((hdrGood ds 512 && decide (fld ds 600 4 = crc32 (pcs ds 1024 16384))) || (hdrGood ds (512 * b) && decide (fld ds (512 * b + 24) 8 = (b : Int)) && decide (fld ds (512 * b + 88) 4 = crc32 (pcs ds (512 * f) 16384)))) ∧ ((hdrGood ds 512 && decide (fld ds 600 4 = crc32 (pcs ds 1024 16384))) = true → ∃ p, A = some ⟨p, 0, none⟩ ∧ ∃ D cap l, l.map Prod.snd = usedC (pcs ds 1024 16384) 128 ∧ l.length ≤ 128 ∧ OR 100 1 w [bm] w' (⟨p, .cells (tbC D l.length cap 512 512 (gT (pcs ds 568 16)) (protB (pcs ds 0 512) (fld ds 544 8 % 4294967296)) false 128 128 2 (fld ds (600) 4) (fld ds (536) 8) (fld ds (544) 8) (fld ds (552) 8) (fld ds (560) 8) true).toArray 99 (0, 0), true⟩ :: ents 103 l) D l.length cap (ptrs l)) ∧ ((hdrGood ds 512 && decide (fld ds 600 4 = crc32 (pcs ds 1024 16384))) = false → (hdrGood ds (512 * b) && decide (fld ds (512 * b + 24) 8 = (b : Int)) && decide (fld ds (512 * b + 88) 4 = crc32 (pcs ds (512 * f) 16384))) = true → ∃ p, A = some ⟨p, 0, none⟩ ∧ ∃ D cap l, l.map Prod.snd = usedC (pcs ds (512 * f) 16384) 128 ∧ l.length ≤ 128 ∧ OR 100 1 w [bm] w' (⟨p, .cells (tbC D l.length cap 512 512 (gT (pcs ds (512 * b + 56) 16)) (protB (pcs ds 0 512) ((fld ds (512 * b + 24) 8) % 4294967296)) true 128 128 f (fld ds (512 * b + 88) 4) (fld ds (512 * b + 32) 8) (fld ds (512 * b + 24) 8) (fld ds (512 * b + 40) 8) (fld ds (512 * b + 48) 8) true).toArray 99 (0, 0), true⟩ :: ents 103 l) D l.length cap (ptrs l))) := by
  refine enter (fun ρ => .tuple #[ρ 6, ρ 7]) Tryd.func47 rfl rfl rfl (res2 rfl) ?_
  have H := SH.rw1 hm
  refine sq ?_
  refine rg ?_
  refine asg (v := .pointer _) rfl rfl ?_
  refine asg (v := .nilIface) rfl rfl ?_
  refine nl ?_
  refine then_n ?_
  refine sq ?_
  refine rg ?_
  first | refine mv (v := .nilIface) rfl rfl ?_ | refine mv (v := .iface _ _) rfl rfl ?_ | refine mv rfl rfl ?_
  refine mv (v := .int .i64 _) rfl rfl ?_
  refine mv (v := .int .i64 _) rfl rfl ?_
  refine cl ca52 (c_readPrim _ bm bd L c ds (cell_at (H.look (b := bm))) hd ⟨by omega, hL.2⟩ hLc (by omega) hcan1) rfl ?_
  rintro _ w1 ⟨F, A9, e9, rfl, hie, hif, hce, hok⟩
  replace H := H.keep F
  refine mv (v := .tuple _) rfl rfl ?_
  refine xt rfl rfl rfl ?_
  refine xt rfl rfl rfl ?_
  refine asg (v := .pointer _) rfl rfl ?_
  first | refine asg (v := .nilIface) rfl rfl ?_ | refine asg (v := .iface _ _) rfl rfl ?_ | refine asg rfl rfl ?_
  refine nl ?_
  refine then_n ?_
  refine sq ?_
  refine sq ?_
  refine rg ?_
  first | refine mv (v := .nilIface) rfl rfl ?_ | refine mv (v := .iface _ _) rfl rfl ?_ | refine mv rfl rfl ?_
  first | refine eqlI1 rfl Tryd.underlying74 rfl ?_ | refine eqlI0 rfl Tryd.underlying74 rfl ?_ | refine eqlIG rfl Tryd.underlying74 (by assumption) rfl ?_
  refine nl ?_
  refine then_n ?_
  first | refine cd rfl (fun hc1 => ?_) (fun hc1 => ?_) | refine cn rfl (fun hc1 => ?_) (fun hc1 => ?_)   -- test 1
  · have hg1 : (hdrGood ds 512 && decide (fld ds 600 4 = crc32 (pcs ds 1024 16384))) = true := by exact nb_f hif (by have h8 : (!isIf e9) = true := hc1; cases hq : isIf e9 with | true => rw [hq] at h8; exact Bool.noConfusion h8 | false => rfl)
    obtain ⟨p, rfl, D9, cap9, l9, h1, h2, O⟩ := hok hg1
    refine sq ?_
    refine rg ?_
    refine mv (v := .pointer _) rfl rfl ?_
    refine asg (v := .pointer _) rfl rfl ?_
    refine asg (v := .nilIface) rfl rfl ?_
    refine nl ?_
    refine then_n ?_
    refine rt ?_
    refine then_r ?_
    refine fin_r ?_
    exact ⟨H.fr, ⟨_, H.look⟩, _, _, rfl, .inl rfl, by rw [hg1]; rfl, fun _ => ⟨p, rfl, D9, cap9, l9, h1, h2, O.wide⟩, fun h => by rw [hg1] at h; exact Bool.noConfusion h⟩
  · have hg1 : (hdrGood ds 512 && decide (fld ds 600 4 = crc32 (pcs ds 1024 16384))) = false := by exact nb_t hif (by have h8 : (!isIf e9) = false := hc1; cases hq : isIf e9 with | false => rw [hq] at h8; exact Bool.noConfusion h8 | true => rfl)
    obtain ⟨x9, rfl⟩ := hce hg1
    refine sk ?_
    refine then_n ?_
    refine sq ?_
    refine sq ?_
    refine rg ?_
    first | refine mv (v := .nilIface) rfl rfl ?_ | refine mv (v := .iface _ _) rfl rfl ?_ | refine mv rfl rfl ?_
    refine taP rfl Tryd.underlying112 rfl rfl ?_
    refine mv (v := .tuple _) rfl rfl ?_
    refine xt rfl rfl rfl ?_
    refine xt rfl rfl rfl ?_
    refine asg (v := .pointer _) rfl rfl ?_
    refine asg (v := .bool _) rfl rfl ?_
    refine nl ?_
    refine then_n ?_
    refine sq ?_
    refine rg ?_
    refine mv (v := .bool _) rfl rfl ?_
    refine unot rfl rfl ?_
    refine nl ?_
    refine then_n ?_
    first | refine cF rfl rfl ?_ | refine cbF rfl rfl ?_   -- test 2
    refine sk ?_
    refine then_n ?_
    refine sq ?_
    refine rg ?_
    first | refine mv (v := .nilIface) rfl rfl ?_ | refine mv (v := .iface _ _) rfl rfl ?_ | refine mv rfl rfl ?_
    refine cl ca53 (c_seekSize _ bm bd L c x1 x2 x3 (H.look (b := bm)) hL.2) rfl ?_
    rintro _ w2 ⟨rfl, F3, hnew⟩
    replace H := H.put (b := bm) F3 hnew; clear F3 hnew
    refine mv (v := .tuple _) rfl rfl ?_
    refine xt rfl rfl rfl ?_
    refine xt rfl rfl rfl ?_
    refine asg (v := .int .i64 _) rfl rfl ?_
    first | refine asg (v := .nilIface) rfl rfl ?_ | refine asg (v := .iface _ _) rfl rfl ?_ | refine asg rfl rfl ?_
    refine nl ?_
    refine then_n ?_
    refine sq ?_
    refine sq ?_
    refine rg ?_
    first | refine mv (v := .nilIface) rfl rfl ?_ | refine mv (v := .iface _ _) rfl rfl ?_ | refine mv rfl rfl ?_
    first | refine neqI1 rfl Tryd.underlying74 rfl ?_ | refine neqI0 rfl Tryd.underlying74 rfl ?_ | refine neqIG rfl Tryd.underlying74 (by assumption) rfl ?_
    refine nl ?_
    refine then_n ?_
    first | refine cF rfl rfl ?_ | refine cbF rfl rfl ?_   -- test 3
    refine sk ?_
    refine then_n ?_
    refine sq ?_
    refine sq ?_
    refine rg ?_
    refine mv (v := .int .i64 _) rfl rfl ?_
    refine mv (v := .int .i64 _) rfl rfl ?_
    refine mul rfl rfl (by first | exact w_i64 (by omega) | exact w_i64 (rng_i64 _) | rfl) rfl ?_
    refine lss rfl rfl rfl ?_
    refine nl ?_
    refine then_n ?_
    first | refine cF rfl (by omega) ?_ | refine cbF rfl (by omega) ?_   -- test 4
    refine sk ?_
    refine then_n ?_
    refine sq ?_
    refine rg ?_
    refine mv (v := .int .i64 _) rfl rfl ?_
    refine mv (v := .int .i64 _) rfl rfl ?_
    refine quo (c := ((b + 1 : Nat) : Int)) rfl rfl (by omega) (by omega) (by rw [w_i64 (by omega)]; omega) rfl ?_
    refine cvi rfl rfl Tryd.underlying28 (by first | exact w_u64 (by omega) | exact w_u64 (rng_u64 _) | exact m_u64 _) rfl ?_
    refine sub (c := (b : Int)) rfl rfl (by rw [w_u64 (by omega)]; omega) rfl ?_
    refine asg (v := .int .u64 _) rfl rfl ?_
    refine nl ?_
    refine then_n ?_
    refine sq ?_
    refine rg ?_
    first | refine mv (v := .nilIface) rfl rfl ?_ | refine mv (v := .iface _ _) rfl rfl ?_ | refine mv rfl rfl ?_
    refine mv (v := .int .i64 _) rfl rfl ?_
    refine mv (v := .int .i64 _) rfl rfl ?_
    refine mv (v := .int .u64 _) rfl rfl ?_
    refine cl ca54 (c_readBack _ b f bm bd L c ds (cell_at (H.look (b := bm))) (hd.now H.fr (by simpa using Ne.symm hne)) ⟨by omega, hL.2⟩ hLc (by omega) hf hcan2) rfl ?_
    rintro _ w3 ⟨F2, A10, e10, rfl, hie2, hif2, hok2⟩
    refine mv (v := .tuple _) rfl rfl ?_
    refine xt rfl rfl rfl ?_
    refine xt rfl rfl rfl ?_
    refine asg (v := .pointer _) rfl rfl ?_
    first | refine asg (v := .nilIface) rfl rfl ?_ | refine asg (v := .iface _ _) rfl rfl ?_ | refine asg rfl rfl ?_
    refine nl ?_
    refine then_n ?_
    refine sq ?_
    refine sq ?_
    refine rg ?_
    first | refine mv (v := .nilIface) rfl rfl ?_ | refine mv (v := .iface _ _) rfl rfl ?_ | refine mv rfl rfl ?_
    first | refine neqI1 rfl Tryd.underlying74 rfl ?_ | refine neqI0 rfl Tryd.underlying74 rfl ?_ | refine neqIG rfl Tryd.underlying74 (by assumption) rfl ?_
    refine nl ?_
    refine then_n ?_
    first | refine cd rfl (fun hc5 => ?_) (fun hc5 => ?_) | refine cn rfl (fun hc5 => ?_) (fun hc5 => ?_)   -- test 5
    · replace H := H.keep F2
      have hg2 : (hdrGood ds (512 * b) && decide (fld ds (512 * b + 24) 8 = (b : Int)) && decide (fld ds (512 * b + 88) 4 = crc32 (pcs ds (512 * f) 16384))) = false := nb_t hif2 hc5
      refine sq ?_
      refine rg ?_
      refine cl ca49 (c_errNew _ _) rfl ?_
      rintro _ w4 ⟨⟨be1, rfl⟩, F⟩
      replace H := H.keep F; clear F
      refine asg (v := .pointer _) rfl rfl ?_
      first | refine asg (v := .nilIface) rfl rfl ?_ | refine asg (v := .iface _ _) rfl rfl ?_ | refine asg rfl rfl ?_
      refine nl ?_
      refine then_n ?_
      refine rt ?_
      refine then_r ?_
      refine fin_r ?_
      exact ⟨H.fr, ⟨_, H.look⟩, _, _, rfl, .inr ⟨_, _, rfl⟩, by rw [hg1, hg2]; rfl, fun h => by rw [hg1] at h; exact Bool.noConfusion h, fun _ h => by rw [hg2] at h; exact Bool.noConfusion h⟩
    · have hg2 : (hdrGood ds (512 * b) && decide (fld ds (512 * b + 24) 8 = (b : Int)) && decide (fld ds (512 * b + 88) 4 = crc32 (pcs ds (512 * f) 16384))) = true := nb_f hif2 hc5
      obtain ⟨p, rfl, D9, cap9, l9, h1, h2, O⟩ := hok2 hg2
      replace O := O.joinN H ents_m1
      simp only [List.cons_append, List.nil_append] at O
      replace H := O.sh
      refine sk ?_
      refine then_n ?_
      refine sq ?_
      refine rg ?_
      refine mv (v := .pointer _) rfl rfl ?_
      first | refine nc rfl rfl ?_ | refine nci rfl rfl ?_
      refine fa rfl fo99_5 rfl ?_
      refine st (v := .bool _) H rfl rfl sc4 rfl (by show 0 + 5 < 15; decide) (by omega) ?_
      intro w95 H1 F; replace O := O.put F H1.look; clear H H1 F; have H := O.sh
      refine nl ?_
      refine then_n ?_
      refine sq ?_
      refine rg ?_
      refine mv (v := .pointer _) rfl rfl ?_
      refine asg (v := .pointer _) rfl rfl ?_
      refine asg (v := .nilIface) rfl rfl ?_
      refine nl ?_
      refine then_n ?_
      refine rt ?_
      refine fin_r ?_
      exact ⟨H.fr, ⟨_, H.look⟩, _, _, rfl, .inl rfl, by rw [hg1, hg2]; rfl, fun h => by rw [hg1] at h; exact Bool.noConfusion h, fun _ _ => ⟨p, rfl, D9, cap9, l9, h1, h2, O.sub (List.Sublist.cons _ (List.Sublist.refl _))⟩⟩

end Go.Proofs.YthcaejaaalkglaaDoor.X
/- Walks of functions, printed by a program of this claim. -/
namespace Go.Proofs.YthcaejaaalkglaaDoor.X
set_option linter.unusedVariables false
set_option linter.unusedSimpArgs false
open Go Go.RowKit

namespace P22
theorem ca45 : callable Tryd.prog 45 = true := by kernel_rfl
theorem ca46 : callable Tryd.prog 46 = true := by kernel_rfl
theorem ca47 : callable Tryd.prog 47 = true := by kernel_rfl
theorem cc65 : Tryd.prog.concrete 65 = true := by kernel_rfl
theorem fo94_0 : fieldOff Tryd.prog 94 0 = some 0 := by kernel_rfl
theorem sc30 : scalarB Tryd.prog 30 = true := by kernel_rfl

end P22
open P22

set_option maxRecDepth 100000 in
set_option maxHeartbeats 1000000 in
theorem c_implRead (w : World) (bm bd L c : Nat) (x1 x2 x3 : Value) (ds : List UInt8) (hm : w.heap[bm]? = some (.cells [.slice (some ⟨bd, 0, none⟩) L c, x1, x2, x3].toArray 94 (0, 0))) (hd : RB w (some ⟨bd, 0, none⟩) L ds) (hne : bm ≠ bd) (hL : 34816 ≤ L ∧ L ≤ 1000000000) (hLc : L ≤ c) (b f : Nat) (hLb : L = 512 * (b + 1)) (hf : 512 * f + 16384 ≤ L) (hcan1 : hdrGood ds 512 = true → fld ds 584 8 = 2 ∧ fld ds 592 4 = 128 ∧ fld ds 596 4 = 128) (hcan2 : hdrGood ds (512 * b) = true → fld ds (512 * b + 72) 8 = (f : Int) ∧ fld ds (512 * b + 80) 4 = 128 ∧ fld ds (512 * b + 84) 4 = 128) (hfit1 : fitsB ds 512 512 = true) (hfit2 : fitsB ds 512 (512 * b) = true) : Calls Tryd.prog 29 #[.pointer (some ⟨bm, 0, none⟩), .int .i64 512] w (Ret fun v w' => Fr [bm] w w' ∧ (∃ x, w'.heap[bm]? = some (.cells [.slice (some ⟨bd, 0, none⟩) L c, x, x2, x3].toArray 94 (0, 0))) ∧ ∃ A, v = .tuple #[.pointer A, .bool ((hdrGood ds 512 && decide (fld ds 600 4 = crc32 (pcs ds 1024 16384))) || (hdrGood ds (512 * b) && decide (fld ds (512 * b + 24) 8 = (b : Int)) && decide (fld ds (512 * b + 88) 4 = crc32 (pcs ds (512 * f) 16384))))] ∧ ((hdrGood ds 512 && decide (fld ds 600 4 = crc32 (pcs ds 1024 16384))) = true → ∃ p, A = some ⟨p, 0, none⟩ ∧ ∃ D cap l, l.map Prod.snd = usedC (pcs ds 1024 16384) 128 ∧ l.length ≤ 128 ∧ OR 100 1 w [bm] w' (⟨p, .cells (tbC D l.length cap 512 512 (gT (pcs ds 568 16)) (protB (pcs ds 0 512) (fld ds 544 8 % 4294967296)) false 128 128 2 (fld ds (600) 4) (fld ds (536) 8) (fld ds (544) 8) (fld ds (552) 8) (fld ds (560) 8) true).toArray 99 (0, 0), true⟩ :: ents 103 l) D l.length cap (ptrs l)) ∧ ((hdrGood ds 512 && decide (fld ds 600 4 = crc32 (pcs ds 1024 16384))) = false → (hdrGood ds (512 * b) && decide (fld ds (512 * b + 24) 8 = (b : Int)) && decide (fld ds (512 * b + 88) 4 = crc32 (pcs ds (512 * f) 16384))) = true → ∃ p, A = some ⟨p, 0, none⟩ ∧ ∃ D cap l, l.map Prod.snd = usedC (pcs ds (512 * f) 16384) 128 ∧ l.length ≤ 128 ∧ OR 100 1 w [bm] w' (⟨p, .cells (tbC D l.length cap 512 512 (gT (pcs ds (512 * b + 56) 16)) (protB (pcs ds 0 512) ((fld ds (512 * b + 24) 8) % 4294967296)) true 128 128 f (fld ds (512 * b + 88) 4) (fld ds (512 * b + 32) 8) (fld ds (512 * b + 24) 8) (fld ds (512 * b + 40) 8) (fld ds (512 * b + 48) 8) true).toArray 99 (0, 0), true⟩ :: ents 103 l) D l.length cap (ptrs l))) := by
  refine enter (fun ρ => .tuple #[ρ 4, ρ 5]) Tryd.func29 rfl rfl rfl (res2 rfl) ?_
  have H := SH.rw1 hm
  refine sq ?_
  refine rg ?_
  refine asg (v := .pointer _) rfl rfl ?_
  refine asg (v := .bool _) rfl rfl ?_
  refine nl ?_
  refine then_n ?_
  refine sq ?_
  refine sq ?_
  refine dr (by kernel_rfl) ?_   -- region 1
  have H := H.drew
  refine holdH H [] ?_
  refine tk (i := 0) rfl (by kernel_rfl) rfl H (fun w' H => r_mv (v := .int .i64 _) rfl) ?_
  refine fk (i := 1) (by kernel_rfl) rfl rfl rfl ?_
  refine cl ca45 (c_secAsked _ 512 (by decide)) rfl ?_
  rintro _ w1 ⟨rfl, F⟩
  replace H := H.keep F; clear F
  refine nl ?_
  refine then_n ?_
  refine ⟨H, ?_⟩
  refine tk (i := 2) rfl (by kernel_rfl) rfl H (fun w' H => r_unot rfl) ?_
  refine tk (i := 3) rfl (by kernel_rfl) rfl H (fun w' H => r_mv (v := .bool _) rfl) ?_
  first | refine spaL (t := 11) (b := false) rfl ?_ | refine spaF (t := 11) rfl rfl ?_   -- guard 1
  refine tkg (i := 4) rfl (by kernel_rfl) rfl H rfl (fun w' H => r_mv (v := .pointer _) rfl) ?_
  first | refine tkg (i := 5) rfl (by kernel_rfl) rfl H rfl (fun w' H => r_nc rfl) ?_ | refine tkg (i := 5) rfl (by kernel_rfl) rfl H rfl (fun w' H => r_nci rfl) ?_
  refine tkg (i := 6) rfl (by kernel_rfl) rfl H rfl (fun w' H => r_fa rfl fo94_0) ?_
  first | refine tkg (i := 7) rfl (by kernel_rfl) rfl H rfl (fun w' H => r_ld H rfl sc30 rfl) ?_ | refine tkg (i := 7) rfl (by kernel_rfl) rfl H rfl (fun w' H => r_lc rfl (by first | assumption | exact H.fr.cell (by assumption) (by simp)) sc30) ?_ | refine tkg (i := 7) rfl (by kernel_rfl) rfl H rfl (fun w' H => r_ld H rfl sc30 (by assumption)) ?_
  refine tkg (i := 8) rfl (by kernel_rfl) rfl H rfl (fun w' H => r_mv (v := .int .i64 _) rfl) ?_
  refine tkg (i := 9) rfl (by kernel_rfl) rfl H rfl (fun w' H => r_mv (v := .int .i64 _) rfl) ?_
  refine fk (i := 10) (by kernel_rfl) rfl rfl rfl ?_
  refine gy rfl ?_
  refine cl ca46 (c_gptFits _ bd L c 512 512 ds (hd.now H.fr (by simpa using Ne.symm hne)) (by omega) hL.2 hLc (by decide)) rfl ?_
  rintro _ w2 ⟨rfl, F⟩
  replace H := H.keep F; clear F
  rw [hfit1]
  refine nl ?_
  refine then_n ?_
  refine ⟨H, ?_⟩
  refine tkg (i := 11) rfl (by kernel_rfl) rfl H rfl (fun w' H => r_unot rfl) ?_
  refine tk (i := 12) rfl (by kernel_rfl) rfl H (fun w' H => r_pkF (v := .bool _) rfl rfl) ?_
  refine tk (i := 13) rfl (by kernel_rfl) rfl H (fun w' H => r_mv (v := .bool _) rfl) ?_
  first | refine spaL (t := 21) (b := false) rfl ?_ | refine spaF (t := 21) rfl rfl ?_   -- guard 2
  refine tkg (i := 14) rfl (by kernel_rfl) rfl H rfl (fun w' H => r_mv (v := .pointer _) rfl) ?_
  first | refine tkg (i := 15) rfl (by kernel_rfl) rfl H rfl (fun w' H => r_nc rfl) ?_ | refine tkg (i := 15) rfl (by kernel_rfl) rfl H rfl (fun w' H => r_nci rfl) ?_
  refine tkg (i := 16) rfl (by kernel_rfl) rfl H rfl (fun w' H => r_fa rfl fo94_0) ?_
  first | refine tkg (i := 17) rfl (by kernel_rfl) rfl H rfl (fun w' H => r_ld H rfl sc30 rfl) ?_ | refine tkg (i := 17) rfl (by kernel_rfl) rfl H rfl (fun w' H => r_lc rfl (by first | assumption | exact H.fr.cell (by assumption) (by simp)) sc30) ?_ | refine tkg (i := 17) rfl (by kernel_rfl) rfl H rfl (fun w' H => r_ld H rfl sc30 (by assumption)) ?_
  refine tkg (i := 18) rfl (by kernel_rfl) rfl H rfl (fun w' H => r_mv (v := .int .i64 _) rfl) ?_
  refine tkg (i := 19) rfl (by kernel_rfl) rfl H rfl (fun w' H => r_mv (v := .pointer _) rfl) ?_
  first | refine tkg (i := 20) rfl (by kernel_rfl) rfl H rfl (fun w' H => r_nc rfl) ?_ | refine tkg (i := 20) rfl (by kernel_rfl) rfl H rfl (fun w' H => r_nci rfl) ?_
  refine tkg (i := 21) rfl (by kernel_rfl) rfl H rfl (fun w' H => r_fa rfl fo94_0) ?_
  first | refine tkg (i := 22) rfl (by kernel_rfl) rfl H rfl (fun w' H => r_ld H rfl sc30 rfl) ?_ | refine tkg (i := 22) rfl (by kernel_rfl) rfl H rfl (fun w' H => r_lc rfl (by first | assumption | exact H.fr.cell (by assumption) (by simp)) sc30) ?_ | refine tkg (i := 22) rfl (by kernel_rfl) rfl H rfl (fun w' H => r_ld H rfl sc30 (by assumption)) ?_
  refine tkg (i := 23) rfl (by kernel_rfl) rfl H rfl (fun w' H => r_lnS rfl Tryd.underlying30) ?_
  refine tkg (i := 24) rfl (by kernel_rfl) rfl H rfl (fun w' H => r_mv (v := .int .i64 _) rfl) ?_
  refine tkg (i := 25) rfl (by kernel_rfl) rfl H rfl (fun w' H => r_quo (c := ((b + 1 : Nat) : Int)) rfl rfl (by omega) (by omega) (by rw [w_i64 (by omega)]; omega)) ?_
  refine tkg (i := 26) rfl (by kernel_rfl) rfl H rfl (fun w' H => r_mv (v := .int .i64 _) rfl) ?_
  refine tkg (i := 27) rfl (by kernel_rfl) rfl H rfl (fun w' H => r_mul (c := ((512 * (b + 1) : Nat) : Int)) rfl rfl (by rw [w_i64 (by omega)]; omega)) ?_
  refine tkg (i := 28) rfl (by kernel_rfl) rfl H rfl (fun w' H => r_mv (v := .int .i64 _) rfl) ?_
  refine tkg (i := 29) rfl (by kernel_rfl) rfl H rfl (fun w' H => r_sub (c := ((512 * b : Nat) : Int)) rfl rfl (by rw [w_i64 (by omega)]; omega)) ?_
  refine fk (i := 30) (by kernel_rfl) rfl rfl rfl ?_
  refine gy rfl ?_
  refine cl ca46 (c_gptFits _ bd L c 512 (512 * b) ds (hd.now H.fr (by simpa using Ne.symm hne)) (by omega) hL.2 hLc (by decide)) rfl ?_
  rintro _ w3 ⟨rfl, F⟩
  replace H := H.keep F; clear F
  rw [hfit2]
  refine nl ?_
  refine then_n ?_
  refine ⟨H, ?_⟩
  refine tkg (i := 31) rfl (by kernel_rfl) rfl H rfl (fun w' H => r_unot rfl) ?_
  refine tk (i := 32) rfl (by kernel_rfl) rfl H (fun w' H => r_pkF (v := .bool _) rfl rfl) ?_
  refine da (by kernel_rfl) ?_
  refine then_n ?_
  first | refine cF rfl rfl ?_ | refine cbF rfl rfl ?_   -- test 1
  refine sk ?_
  refine then_n ?_
  refine sq ?_
  refine rg ?_
  refine mv (v := .pointer _) rfl rfl ?_
  refine mi (v := .pointer _) rfl cc65 rfl ?_
  refine mv (v := .int .i64 _) rfl rfl ?_
  refine mv (v := .int .i64 _) rfl rfl ?_
  refine cl ca47 (c_gptRead _ bm bd L c x1 x2 x3 ds (H.look (b := bm)) (hd.now H.fr (by simpa using Ne.symm hne)) hne hL hLc b f hLb hf hcan1 hcan2) rfl ?_
  have F0 := H.fr
  rintro _ w4 ⟨F, ⟨x9, hm9⟩, A9, e9, rfl, hie, hif, hr1, hr2⟩
  replace H := H.put (b := bm) F hm9
  refine mv (v := .tuple _) rfl rfl ?_
  refine xt rfl rfl rfl ?_
  refine xt rfl rfl rfl ?_
  refine asg (v := .pointer _) rfl rfl ?_
  first | refine asg (v := .nilIface) rfl rfl ?_ | refine asg (v := .iface _ _) rfl rfl ?_ | refine asg rfl rfl ?_
  refine nl ?_
  refine then_n ?_
  refine sq ?_
  refine dr (by kernel_rfl) ?_   -- region 4
  have H := H.drew
  refine hold (fun _ => True) [] ?_
  refine tk (i := 0) rfl (by kernel_rfl) rfl trivial (fun _ _ => r_mv (v := .pointer _) rfl) ?_
  first | refine tk (i := 1) rfl (by kernel_rfl) rfl trivial (fun _ _ => r_mv (v := .nilIface) rfl) ?_ | refine tk (i := 1) rfl (by kernel_rfl) rfl trivial (fun _ _ => r_mv (v := .iface _ _) rfl) ?_ | refine tk (i := 1) rfl (by kernel_rfl) rfl trivial (fun _ _ => r_mv rfl) ?_
  first | refine tk (i := 2) rfl (by kernel_rfl) rfl trivial (fun _ _ => r_eqlI1 rfl Tryd.underlying74) ?_ | refine tk (i := 2) rfl (by kernel_rfl) rfl trivial (fun _ _ => r_eqlI0 rfl Tryd.underlying74) ?_ | refine tk (i := 2) rfl (by kernel_rfl) rfl trivial (fun _ _ => r_eqlIG rfl Tryd.underlying74 (by assumption)) ?_
  refine tk (i := 3) rfl (by kernel_rfl) rfl trivial (fun _ _ => r_asg (v := .pointer _) rfl) ?_
  refine tk (i := 4) rfl (by kernel_rfl) rfl trivial (fun _ _ => r_asg (v := .bool _) rfl) ?_
  refine unfree ?_
  refine dn (by kernel_rfl) ?_
  refine then_n ?_
  refine rt ?_
  refine fin_r ?_
  refine ⟨H.fr, ⟨x9, hm9⟩, A9, ?_, fun h => ?_, fun h1 h2 => ?_⟩
  · show Value.tuple #[.pointer A9, .bool (!isIf e9)] = _
    rw [hif, Bool.not_not]
  · obtain ⟨p, hp, D, cap, l, k1, k2, O⟩ := hr1 h
    exact ⟨p, hp, D, cap, l, k1, k2, (O.backS F0).drew⟩
  · obtain ⟨p, hp, D, cap, l, k1, k2, O⟩ := hr2 h1 h2
    exact ⟨p, hp, D, cap, l, k1, k2, (O.backS F0).drew⟩

end Go.Proofs.YthcaejaaalkglaaDoor.X
/- What the package tells of a table. -/
namespace Go.Proofs.YthcaejaaalkglaaDoor.X
set_option linter.unusedVariables false
open Go Go.RowKit
/-- A partition's cells, of the package's own kind. -/
def pc (p : GP) : List Value := p.cells ++ [.int .i64 512, .int .i64 512]
def gpE (k : Int) (e : List UInt8) : GP := ⟨k, fld e 32 8, fld e 40 8, szE e, gT (pcs e 0 16), nmB e, gT (pcs e 16 16), fld e 48 8⟩
theorem entC_pc (k : Int) (e : List UInt8) : entC k (szE e) e = pc (gpE k e) := rfl
def useP (ar : List UInt8) (j : Nat) : Option GP := if freeE (entA ar j) then none else some (gpE ((j : Int) + 1) (entA ar j))
def usedP (ar : List UInt8) (i : Nat) : List GP := (List.range i).filterMap (useP ar)
theorem usedC_P (ar : List UInt8) (i : Nat) : usedC ar i = (usedP ar i).map pc := by
  unfold usedC usedP
  rw [List.map_filterMap]
  congr 1
  funext j
  unfold useJ useP
  split <;> simp [entC_pc]
/-- A row of pointers to partitions, to be read. -/
def PR (T : TypeId) (w : World) (D : Option Addr) (l : PL) : Prop := ∀ i x, l[i]? = some x → ∃ ad, D = some ad ∧ w.cell? (ad.add i) = some (.pointer (some ⟨x.1, 0, none⟩)) ∧ w.heap[x.1]? = some (.cells x.2.toArray T (0, 0))
theorem OR.pr {T e : TypeId} {w0 w : World} {S : List Nat} {L : List Ent} {D : Option Addr} {k cap : Nat} {l : PL} (O : OR e 1 w0 S w L D k cap (ptrs l)) (hs : ∀ x ∈ ents T l, x ∈ L) : PR T w D l := by
  intro i x hx
  have hi := (List.getElem?_eq_some_iff.1 hx).1
  have hl : l.length = k := by have := O.len; simpa [ptrs_len] using this
  obtain ⟨ad, rfl⟩ := O.some_of (by omega)
  exact ⟨ad, rfl, O.one (ptrs_get hx), O.sh.ptr hs hx⟩
theorem PR.keep {T : TypeId} {w w' : World} {D : Option Addr} {l : PL} (h : PR T w D l) (f : Fr [] w w') : PR T w' D l := fun i x hx => by
  obtain ⟨ad, e, h1, h2⟩ := h i x hx
  exact ⟨ad, e, f.cell h1 (by simp), f.at h2 (by simp)⟩
/-- Are two partitions the same to the statements? -/
def sameP (p q : GP) : Bool := decide (p.ix = q.ix) && (decide (p.st = q.st) && (decide (p.en = q.en) && (decide (p.sz = q.sz) && (sameG p.ty q.ty && (sameG p.gu q.gu && (decide (p.nm = q.nm) && decide (p.att = q.att)))))))
def sameT (g h : List UInt8) (ps qs : List GP) : Bool := sameG g h && (decide (ps.length = qs.length) && (ps.zip qs).all fun x => sameP x.1 x.2)
theorem sameT_t {g h : List UInt8} {ps qs : List GP} (h1 : sameG g h = true) (h2 : ps.length = qs.length) (h3 : ∀ j p q, j < ps.length → ps[j]? = some p → qs[j]? = some q → sameP p q = true) : sameT g h ps qs = true := by
  unfold sameT
  rw [h1, decide_eq_true h2, Bool.true_and, Bool.true_and, List.all_eq_true]
  intro x hx
  obtain ⟨j, hj, e⟩ := List.mem_iff_getElem.1 hx
  rw [List.getElem_zip] at e
  have hj' : j < ps.length ∧ j < qs.length := by rw [List.length_zip] at hj; omega
  exact h3 j x.1 x.2 hj'.1 (by rw [List.getElem?_eq_getElem hj'.1, ← e]) (by rw [List.getElem?_eq_getElem hj'.2, ← e])
theorem sameT_f {g h : List UInt8} {ps qs : List GP} {j : Nat} {p q : GP} (hp : ps[j]? = some p) (hq : qs[j]? = some q) (h3 : sameP p q = false) : sameT g h ps qs = false := by
  unfold sameT
  have hj1 := (List.getElem?_eq_some_iff.1 hp)
  have hj2 := (List.getElem?_eq_some_iff.1 hq)
  obtain ⟨a1, a2⟩ := hj1
  obtain ⟨c1, c2⟩ := hj2
  have : ((ps.zip qs).all fun x => sameP x.1 x.2) = false := by
    rw [List.all_eq_false]
    refine ⟨(p, q), ?_, by simp [h3]⟩
    rw [List.mem_iff_getElem]
    exact ⟨j, by simp; omega, by rw [List.getElem_zip, a2, c2]⟩
  rw [this]; simp
theorem sameS_next {ps qs : List GP} {i : Nat} {p q : GP} (h : ∀ j p q, j < i → ps[j]? = some p → qs[j]? = some q → sameP p q = true) (hp : ps[i]? = some p) (hq : qs[i]? = some q) (h2 : sameP p q = true) : ∀ j p q, j < i + 1 → ps[j]? = some p → qs[j]? = some q → sameP p q = true := fun j p' q' hj h1 h3 => by
  rcases Nat.lt_or_ge j i with h4 | h4
  · exact h j p' q' h4 h1 h3
  · obtain rfl : j = i := by omega
    rw [hp] at h1; rw [hq] at h3
    cases h1; cases h3; exact h2
/-- The identifier of an entry that is not in use. -/
def zG : List UInt8 := [48, 48, 48, 48, 48, 48, 48, 48, 45, 48, 48, 48, 48, 45, 48, 48, 48, 48, 45, 48, 48, 48, 48, 45, 48, 48, 48, 48, 48, 48, 48, 48, 48, 48, 48, 48]
def keepP (ps : List GP) : List GP := ps.filter fun p => !(sameG p.ty zG)
theorem keepP_t {ps : List GP} {i : Nat} {p : GP} (h : ps[i]? = some p) (h2 : sameG p.ty zG = false) : keepP (ps.take (i + 1)) = keepP (ps.take i) ++ [p] := by
  unfold keepP
  rw [take_succ_get h, List.filter_append]
  simp [h2]
theorem keepP_f {ps : List GP} {i : Nat} {p : GP} (h : ps[i]? = some p) (h2 : sameG p.ty zG = true) : keepP (ps.take (i + 1)) = keepP (ps.take i) := by
  unfold keepP
  rw [take_succ_get h, List.filter_append]
  simp [h2]
theorem keepP_le (ps : List GP) : (keepP ps).length ≤ ps.length := List.length_filter_le _ _
/-- The small table of the statements. -/
def gS : List UInt8 := [52, 51, 69, 53, 49, 56, 57, 50, 45, 51, 50, 55, 51, 45, 52, 50, 70, 55, 45, 66, 67, 68, 65, 45, 66, 52, 51, 66, 56, 48, 67, 68, 70, 67, 52, 56]
def pS : GP := ⟨1, 40, 49, 5120, [48, 70, 67, 54, 51, 68, 65, 70, 45, 56, 52, 56, 51, 45, 52, 55, 55, 50, 45, 56, 69, 55, 57, 45, 51, 68, 54, 57, 68, 56, 52, 55, 55, 68, 69, 52], [97], [48, 48, 48, 48, 48, 48, 48, 48, 45, 48, 48, 48, 48, 45, 48, 48, 48, 48, 45, 48, 48, 48, 48, 45, 48, 48, 48, 48, 48, 48, 48, 48, 48, 48, 65, 49], 0⟩
theorem pS_ok : pS.ok := ⟨by decide, by decide, by decide, by decide, by decide⟩
end Go.Proofs.YthcaejaaalkglaaDoor.X
/- Walks of functions, printed by a program of this claim. -/
namespace Go.Proofs.YthcaejaaalkglaaDoor.X
set_option linter.unusedVariables false
set_option linter.unusedSimpArgs false
open Go Go.RowKit

namespace P23
theorem ag24_5 : aggB Tryd.prog 24 5 = true := by kernel_rfl
theorem bo24 : buildOK Tryd.prog 24 = true := by kernel_rfl
theorem bo49 : buildOK Tryd.prog 49 = true := by kernel_rfl
theorem fo103_0 : fieldOff Tryd.prog 103 0 = some 0 := by kernel_rfl
theorem fo103_1 : fieldOff Tryd.prog 103 1 = some 1 := by kernel_rfl
theorem fo103_2 : fieldOff Tryd.prog 103 2 = some 2 := by kernel_rfl
theorem fo103_3 : fieldOff Tryd.prog 103 3 = some 3 := by kernel_rfl
theorem fo103_4 : fieldOff Tryd.prog 103 4 = some 4 := by kernel_rfl
theorem fo103_5 : fieldOff Tryd.prog 103 5 = some 5 := by kernel_rfl
theorem fo103_6 : fieldOff Tryd.prog 103 6 = some 6 := by kernel_rfl
theorem fo103_7 : fieldOff Tryd.prog 103 7 = some 7 := by kernel_rfl
theorem fo24_0 : fieldOff Tryd.prog 24 0 = some 0 := by kernel_rfl
theorem fo99_0 : fieldOff Tryd.prog 99 0 = some 0 := by kernel_rfl
theorem fo99_1 : fieldOff Tryd.prog 99 1 = some 1 := by kernel_rfl
theorem fo99_3 : fieldOff Tryd.prog 99 3 = some 3 := by kernel_rfl
theorem fo99_4 : fieldOff Tryd.prog 99 4 = some 4 := by kernel_rfl
theorem fo99_5 : fieldOff Tryd.prog 99 5 = some 5 := by kernel_rfl
theorem pl24_1 : placeOf Tryd.prog 24 1 = some (1, 1) := by kernel_rfl
theorem pl24_2 : placeOf Tryd.prog 24 2 = some (2, 1) := by kernel_rfl
theorem pl24_3 : placeOf Tryd.prog 24 3 = some (3, 1) := by kernel_rfl
theorem pl24_4 : placeOf Tryd.prog 24 4 = some (4, 1) := by kernel_rfl
theorem pl49_0 : placeOf Tryd.prog 49 0 = some (0, 1) := by kernel_rfl
theorem pl49_1 : placeOf Tryd.prog 49 1 = some (1, 1) := by kernel_rfl
theorem pl49_2 : placeOf Tryd.prog 49 2 = some (2, 1) := by kernel_rfl
theorem pl49_3 : placeOf Tryd.prog 49 3 = some (3, 1) := by kernel_rfl
theorem pl49_4 : placeOf Tryd.prog 49 4 = some (4, 1) := by kernel_rfl
theorem pl49_5 : placeOf Tryd.prog 49 5 = some (5, 1) := by kernel_rfl
theorem pl49_6 : placeOf Tryd.prog 49 6 = some (6, 1) := by kernel_rfl
theorem pl49_7 : placeOf Tryd.prog 49 7 = some (7, 1) := by kernel_rfl
theorem ri49 : rowInfo Tryd.prog 49 = some ([.int .i64 0, .int .u64 0, .int .u64 0, .int .u64 0, .string ⟨#[]⟩, .string ⟨#[]⟩, .string ⟨#[]⟩, .int .u64 0], 88) := by kernel_rfl
theorem sc100 : scalarB Tryd.prog 100 = true := by kernel_rfl
theorem sc101 : scalarB Tryd.prog 101 = true := by kernel_rfl
theorem sc22 : scalarB Tryd.prog 22 = true := by kernel_rfl
theorem sc28 : scalarB Tryd.prog 28 = true := by kernel_rfl
theorem sc3 : scalarB Tryd.prog 3 = true := by kernel_rfl
theorem sc4 : scalarB Tryd.prog 4 = true := by kernel_rfl
theorem sc9 : scalarB Tryd.prog 9 = true := by kernel_rfl
theorem sc97 : scalarB Tryd.prog 97 = true := by kernel_rfl
theorem sz100_1 : sizeB Tryd.prog 100 1 = true := by kernel_rfl
theorem sz49_8 : sizeB Tryd.prog 49 8 = true := by kernel_rfl
theorem ze24 : zeroL Tryd.prog 24 = some [.slice none 0 0, .int .i64 0, .string ⟨#[]⟩, .bool false, .bool false] := by kernel_rfl
theorem ze49 : zeroL Tryd.prog 49 = some [.int .i64 0, .int .u64 0, .int .u64 0, .int .u64 0, .string ⟨#[]⟩, .string ⟨#[]⟩, .string ⟨#[]⟩, .int .u64 0] := by kernel_rfl

end P23
open P23

set_option maxRecDepth 100000 in
set_option maxHeartbeats 1000000 in
theorem c_told (w : World) (p : Nat) (D : Option Addr) (cap : Nat) (l : PL) (qs : List GP) (g : List UInt8) (pr rb ini : Bool) (cnt esz frm crc my oth fi lx : Int) (hp : w.heap[p]? = some (.cells (tbC D l.length cap 512 512 g pr rb cnt esz frm crc my oth fi lx ini).toArray 99 (0, 0))) (hr : PR 103 w D l) (hl : l.map Prod.snd = qs.map pc) (hm : l.length ≤ 200) : Calls Tryd.prog 31 #[.pointer (some ⟨p, 0, none⟩)] w (Ret fun v w' => ∃ D2 cap2, v = .agg (gtCells D2 l.length cap2 512 g pr rb).toArray ∧ OR 49 8 w [] w' [] D2 l.length cap2 (qs.flatMap GP.cells)) := by
  refine enterR [.cell 2 24] Tryd.func31 rfl rfl rfl rfl ?_
  have H := SH.nil w
  have hql : qs.length = l.length := by have := congrArg List.length hl; simpa using this.symm
  have t0 : w.cell? ⟨p, 0, none⟩ = some (.slice D l.length cap) := cell_at hp
  have t1 : w.cell? ⟨p, 1, none⟩ = some (.int .i64 512) := cell_at hp
  have t3 : w.cell? ⟨p, 3, none⟩ = some (.string (str g)) := cell_at hp
  have t4 : w.cell? ⟨p, 4, none⟩ = some (.bool pr) := cell_at hp
  have t5 : w.cell? ⟨p, 5, none⟩ = some (.bool rb) := cell_at hp
  refine sq ?_
  refine rg ?_
  refine al H ze24 rfl ?_
  clear H; intro b1 w1 hb1 H _
  refine nl ?_
  refine then_n ?_
  refine sq ?_
  refine dr (by kernel_rfl) ?_   -- region 1
  have H := H.drew
  refine hold (fun _ => True) [] ?_
  refine tk (i := 0) rfl (by kernel_rfl) rfl trivial (fun _ _ => r_mv (v := .pointer _) rfl) ?_
  first | refine tk (i := 1) rfl (by kernel_rfl) rfl trivial (fun _ _ => r_nc rfl) ?_ | refine tk (i := 1) rfl (by kernel_rfl) rfl trivial (fun _ _ => r_nci rfl) ?_
  refine tk (i := 2) rfl (by kernel_rfl) rfl trivial (fun _ _ => r_fa rfl fo99_1) ?_
  refine tk (i := 4) rfl (by kernel_rfl) rfl trivial (fun _ _ => r_mv (v := .pointer _) rfl) ?_
  first | refine tk (i := 5) rfl (by kernel_rfl) rfl trivial (fun _ _ => r_nc rfl) ?_ | refine tk (i := 5) rfl (by kernel_rfl) rfl trivial (fun _ _ => r_nci rfl) ?_
  refine tk (i := 6) rfl (by kernel_rfl) rfl trivial (fun _ _ => r_fa rfl fo99_3) ?_
  refine tk (i := 8) rfl (by kernel_rfl) rfl trivial (fun _ _ => r_mv (v := .pointer _) rfl) ?_
  first | refine tk (i := 9) rfl (by kernel_rfl) rfl trivial (fun _ _ => r_nc rfl) ?_ | refine tk (i := 9) rfl (by kernel_rfl) rfl trivial (fun _ _ => r_nci rfl) ?_
  refine tk (i := 10) rfl (by kernel_rfl) rfl trivial (fun _ _ => r_fa rfl fo99_4) ?_
  refine tk (i := 12) rfl (by kernel_rfl) rfl trivial (fun _ _ => r_mv (v := .pointer _) rfl) ?_
  first | refine tk (i := 13) rfl (by kernel_rfl) rfl trivial (fun _ _ => r_nc rfl) ?_ | refine tk (i := 13) rfl (by kernel_rfl) rfl trivial (fun _ _ => r_nci rfl) ?_
  refine tk (i := 14) rfl (by kernel_rfl) rfl trivial (fun _ _ => r_fa rfl fo99_5) ?_
  refine unfree ?_
  refine holdH H [18] ?_
  first | refine tk (i := 3) rfl (by kernel_rfl) rfl H (fun w' H => r_ld H rfl sc3 rfl) ?_ | refine tk (i := 3) rfl (by kernel_rfl) rfl H (fun w' H => r_lc rfl (by first | assumption | exact H.fr.cell (by assumption) (by simp)) sc3) ?_ | refine tk (i := 3) rfl (by kernel_rfl) rfl H (fun w' H => r_ld H rfl sc3 (by assumption)) ?_
  first | refine tk (i := 7) rfl (by kernel_rfl) rfl H (fun w' H => r_ld H rfl sc9 rfl) ?_ | refine tk (i := 7) rfl (by kernel_rfl) rfl H (fun w' H => r_lc rfl (by first | assumption | exact H.fr.cell (by assumption) (by simp)) sc9) ?_ | refine tk (i := 7) rfl (by kernel_rfl) rfl H (fun w' H => r_ld H rfl sc9 (by assumption)) ?_
  first | refine tk (i := 11) rfl (by kernel_rfl) rfl H (fun w' H => r_ld H rfl sc4 rfl) ?_ | refine tk (i := 11) rfl (by kernel_rfl) rfl H (fun w' H => r_lc rfl (by first | assumption | exact H.fr.cell (by assumption) (by simp)) sc4) ?_ | refine tk (i := 11) rfl (by kernel_rfl) rfl H (fun w' H => r_ld H rfl sc4 (by assumption)) ?_
  first | refine tk (i := 15) rfl (by kernel_rfl) rfl H (fun w' H => r_ld H rfl sc4 rfl) ?_ | refine tk (i := 15) rfl (by kernel_rfl) rfl H (fun w' H => r_lc rfl (by first | assumption | exact H.fr.cell (by assumption) (by simp)) sc4) ?_ | refine tk (i := 15) rfl (by kernel_rfl) rfl H (fun w' H => r_ld H rfl sc4 (by assumption)) ?_
  refine tkbu (out := ?o1) (i := 16) rfl (by kernel_rfl) rfl H ze24 bo24 ?f1 ?_
  case f1 =>
    refine FL.one (v := .int .i64 _) rfl pl24_1 rfl (by first | decide | simp) ?_
    refine FL.one (v := .string _) rfl pl24_2 rfl (by first | decide | simp) ?_
    refine FL.one (v := .bool _) rfl pl24_3 rfl (by first | decide | simp) ?_
    refine FL.one (v := .bool _) rfl pl24_4 rfl (by first | decide | simp) ?_
    exact FL.nil
  refine fk (i := 17) (by kernel_rfl) rfl rfl rfl ?_
  refine al H ze24 rfl ?_
  clear H; intro b2 w2 hb2 H _
  refine nl ?_
  refine then_n ?_
  refine ⟨H.drop, ?_⟩
  refine fb (i := 18) (by kernel_rfl) rfl rfl rfl ?_
  refine sa H rfl rfl ag24_5 rfl rfl (by decide) (by omega) rfl ?_
  clear H; intro w3 H _
  refine nl ?_
  refine then_n ?_
  refine dn (by kernel_rfl) ?_
  refine then_n ?_
  refine sq ?_
  refine sq ?_
  refine rg ?_
  refine mv (v := .pointer _) rfl rfl ?_
  first | refine nc rfl rfl ?_ | refine nci rfl rfl ?_
  refine fa rfl fo99_0 rfl ?_
  first | refine ld H rfl sc97 rfl rfl ?_ | refine lc rfl (by first | assumption | exact H.fr.cell (by assumption) (by simp)) sc97 rfl ?_ | refine ld H rfl sc97 (by assumption) rfl ?_
  refine lnS rfl Tryd.underlying97 rfl ?_
  refine mv (v := .int .i64 _) rfl rfl ?_
  refine nl ?_
  refine then_n ?_
  refine bk ?_
  refine lpM (α := Nat × Option Addr × Nat) [5, 28, 29, 30, 31, 32, 33, 34, 35, 36, 37, 38, 39, 40, 41, 42, 43, 44, 45, 46, 47, 48, 49, 50, 51, 52, 53, 54, 55, 56, 57, 58, 59, 60, 61, 62, 63, 64, 65, 66, 67, 68, 69, 70] (fun (i, D2, cap2) => [(28, .int .i64 (i : Int))]) (fun (i, D2, cap2) w' => i ≤ l.length ∧ OR 49 8 w [] w' [⟨b2, .cells (gtCells D2 i cap2 512 g pr rb).toArray 24 (0, 0), true⟩, ⟨b1, .cells (gtCells none 0 0 0 [] false false).toArray 24 (0, 0), true⟩] D2 i cap2 ((qs.take i).flatMap GP.cells)) (fun (i, D2, cap2) => l.length - i) (0, none, 0) ?_ (fC (by first | rfl | exact congrArg (Value.int _) (by first | omega | assumption | (symm; assumption) | (simp; done) | (simp; omega)) | exact congrArg (fun n => Value.slice _ n _) (by first | omega | (simp; done) | (simp; omega))) (fN _)) ?_   -- loop 1
  · exact ⟨by omega, OR.nil H⟩
  · rintro ⟨i, D2, cap2⟩ ρx w4 ⟨hi, O⟩
    have H := O.sh
    refine sq ?_
    refine rg ?_
    refine lss rfl rfl rfl ?_
    refine nl ?_
    refine then_n ?_
    refine sq ?_
    first | refine cd rfl (fun hc1 => ?_) (fun hc1 => ?_) | refine cn rfl (fun hc1 => ?_) (fun hc1 => ?_)   -- test 1
    · obtain ⟨x, hx⟩ : ∃ x, l[i]? = some x := ⟨_, List.getElem?_eq_getElem (by omega)⟩
      obtain ⟨q, hq⟩ : ∃ q, qs[i]? = some q := ⟨_, List.getElem?_eq_getElem (by omega)⟩
      obtain ⟨ad, rfl, hx1, hx2⟩ := hr i x hx
      have hxq : x.2 = pc q := by
        have e := congrArg (fun m => m[i]?) hl
        simpa [hx, hq] using e
      rw [hxq] at hx2
      have k0 : w.cell? ⟨x.1, 0, none⟩ = some (.int .i64 q.ix) := cell_at hx2
      have k1 : w.cell? ⟨x.1, 1, none⟩ = some (.int .u64 q.st) := cell_at hx2
      have k2 : w.cell? ⟨x.1, 2, none⟩ = some (.int .u64 q.en) := cell_at hx2
      have k3 : w.cell? ⟨x.1, 3, none⟩ = some (.int .u64 q.sz) := cell_at hx2
      have k4 : w.cell? ⟨x.1, 4, none⟩ = some (.string (str q.ty)) := cell_at hx2
      have k5 : w.cell? ⟨x.1, 5, none⟩ = some (.string (str q.nm)) := cell_at hx2
      have k6 : w.cell? ⟨x.1, 6, none⟩ = some (.string (str q.gu)) := cell_at hx2
      have k7 : w.cell? ⟨x.1, 7, none⟩ = some (.int .u64 q.att) := cell_at hx2
      refine sk ?_
      refine then_n ?_
      refine sq ?_
      refine bk ?_
      refine sq ?_
      refine rg ?_
      first | refine ia rfl rfl Tryd.underlying97 sz100_1 (by omega) rfl ?_ | refine iA rfl rfl Tryd.underlying97 sz100_1 (by omega) rfl ?_
      first | refine ld H rfl sc100 rfl rfl ?_ | refine lc rfl (by first | assumption | exact H.fr.cell (by assumption) (by simp)) sc100 rfl ?_ | refine ld H rfl sc100 (by assumption) rfl ?_
      refine asg (v := .pointer _) rfl rfl ?_
      refine nl ?_
      refine then_n ?_
      refine dr (by kernel_rfl) ?_   -- region 5
      have H := H.drew
      replace O := O.drew
      refine hold (fun w' => SH w [] w' [⟨b2, .cells (gtCells D2 i cap2 512 g pr rb).toArray 24 (0, 0), true⟩, ⟨b1, .cells (gtCells none 0 0 0 [] false false).toArray 24 (0, 0), true⟩]) [38] ?_
      refine tk (i := 0) rfl (by kernel_rfl) rfl (H.sub (by repeat (first | exact List.Sublist.refl _ | exact List.nil_sublist _ | apply List.Sublist.cons_cons | apply List.Sublist.cons))) (fun w' H => r_fa rfl fo24_0) ?_
      first | refine tk (i := 1) rfl (by kernel_rfl) rfl (H.sub (by repeat (first | exact List.Sublist.refl _ | exact List.nil_sublist _ | apply List.Sublist.cons_cons | apply List.Sublist.cons))) (fun w' H => r_ld H rfl sc22 rfl) ?_ | refine tk (i := 1) rfl (by kernel_rfl) rfl (H.sub (by repeat (first | exact List.Sublist.refl _ | exact List.nil_sublist _ | apply List.Sublist.cons_cons | apply List.Sublist.cons))) (fun w' H => r_lc rfl (by first | assumption | exact H.fr.cell (by assumption) (by simp)) sc22) ?_ | refine tk (i := 1) rfl (by kernel_rfl) rfl (H.sub (by repeat (first | exact List.Sublist.refl _ | exact List.nil_sublist _ | apply List.Sublist.cons_cons | apply List.Sublist.cons))) (fun w' H => r_ld H rfl sc22 (by assumption)) ?_
      refine tk (i := 2) rfl (by kernel_rfl) rfl (H.sub (by repeat (first | exact List.Sublist.refl _ | exact List.nil_sublist _ | apply List.Sublist.cons_cons | apply List.Sublist.cons))) (fun w' H => r_mv (v := .pointer _) rfl) ?_
      first | refine tk (i := 3) rfl (by kernel_rfl) rfl (H.sub (by repeat (first | exact List.Sublist.refl _ | exact List.nil_sublist _ | apply List.Sublist.cons_cons | apply List.Sublist.cons))) (fun w' H => r_nc rfl) ?_ | refine tk (i := 3) rfl (by kernel_rfl) rfl (H.sub (by repeat (first | exact List.Sublist.refl _ | exact List.nil_sublist _ | apply List.Sublist.cons_cons | apply List.Sublist.cons))) (fun w' H => r_nci rfl) ?_
      refine tk (i := 4) rfl (by kernel_rfl) rfl (H.sub (by repeat (first | exact List.Sublist.refl _ | exact List.nil_sublist _ | apply List.Sublist.cons_cons | apply List.Sublist.cons))) (fun w' H => r_fa rfl fo103_0) ?_
      first | refine tk (i := 5) rfl (by kernel_rfl) rfl (H.sub (by repeat (first | exact List.Sublist.refl _ | exact List.nil_sublist _ | apply List.Sublist.cons_cons | apply List.Sublist.cons))) (fun w' H => r_ld H rfl sc3 rfl) ?_ | refine tk (i := 5) rfl (by kernel_rfl) rfl (H.sub (by repeat (first | exact List.Sublist.refl _ | exact List.nil_sublist _ | apply List.Sublist.cons_cons | apply List.Sublist.cons))) (fun w' H => r_lc rfl (by first | assumption | exact H.fr.cell (by assumption) (by simp)) sc3) ?_ | refine tk (i := 5) rfl (by kernel_rfl) rfl (H.sub (by repeat (first | exact List.Sublist.refl _ | exact List.nil_sublist _ | apply List.Sublist.cons_cons | apply List.Sublist.cons))) (fun w' H => r_ld H rfl sc3 (by assumption)) ?_
      refine tk (i := 6) rfl (by kernel_rfl) rfl (H.sub (by repeat (first | exact List.Sublist.refl _ | exact List.nil_sublist _ | apply List.Sublist.cons_cons | apply List.Sublist.cons))) (fun w' H => r_mv (v := .pointer _) rfl) ?_
      first | refine tk (i := 7) rfl (by kernel_rfl) rfl (H.sub (by repeat (first | exact List.Sublist.refl _ | exact List.nil_sublist _ | apply List.Sublist.cons_cons | apply List.Sublist.cons))) (fun w' H => r_nc rfl) ?_ | refine tk (i := 7) rfl (by kernel_rfl) rfl (H.sub (by repeat (first | exact List.Sublist.refl _ | exact List.nil_sublist _ | apply List.Sublist.cons_cons | apply List.Sublist.cons))) (fun w' H => r_nci rfl) ?_
      refine tk (i := 8) rfl (by kernel_rfl) rfl (H.sub (by repeat (first | exact List.Sublist.refl _ | exact List.nil_sublist _ | apply List.Sublist.cons_cons | apply List.Sublist.cons))) (fun w' H => r_fa rfl fo103_1) ?_
      first | refine tk (i := 9) rfl (by kernel_rfl) rfl (H.sub (by repeat (first | exact List.Sublist.refl _ | exact List.nil_sublist _ | apply List.Sublist.cons_cons | apply List.Sublist.cons))) (fun w' H => r_ld H rfl sc28 rfl) ?_ | refine tk (i := 9) rfl (by kernel_rfl) rfl (H.sub (by repeat (first | exact List.Sublist.refl _ | exact List.nil_sublist _ | apply List.Sublist.cons_cons | apply List.Sublist.cons))) (fun w' H => r_lc rfl (by first | assumption | exact H.fr.cell (by assumption) (by simp)) sc28) ?_ | refine tk (i := 9) rfl (by kernel_rfl) rfl (H.sub (by repeat (first | exact List.Sublist.refl _ | exact List.nil_sublist _ | apply List.Sublist.cons_cons | apply List.Sublist.cons))) (fun w' H => r_ld H rfl sc28 (by assumption)) ?_
      refine tk (i := 10) rfl (by kernel_rfl) rfl (H.sub (by repeat (first | exact List.Sublist.refl _ | exact List.nil_sublist _ | apply List.Sublist.cons_cons | apply List.Sublist.cons))) (fun w' H => r_mv (v := .pointer _) rfl) ?_
      first | refine tk (i := 11) rfl (by kernel_rfl) rfl (H.sub (by repeat (first | exact List.Sublist.refl _ | exact List.nil_sublist _ | apply List.Sublist.cons_cons | apply List.Sublist.cons))) (fun w' H => r_nc rfl) ?_ | refine tk (i := 11) rfl (by kernel_rfl) rfl (H.sub (by repeat (first | exact List.Sublist.refl _ | exact List.nil_sublist _ | apply List.Sublist.cons_cons | apply List.Sublist.cons))) (fun w' H => r_nci rfl) ?_
      refine tk (i := 12) rfl (by kernel_rfl) rfl (H.sub (by repeat (first | exact List.Sublist.refl _ | exact List.nil_sublist _ | apply List.Sublist.cons_cons | apply List.Sublist.cons))) (fun w' H => r_fa rfl fo103_2) ?_
      first | refine tk (i := 13) rfl (by kernel_rfl) rfl (H.sub (by repeat (first | exact List.Sublist.refl _ | exact List.nil_sublist _ | apply List.Sublist.cons_cons | apply List.Sublist.cons))) (fun w' H => r_ld H rfl sc28 rfl) ?_ | refine tk (i := 13) rfl (by kernel_rfl) rfl (H.sub (by repeat (first | exact List.Sublist.refl _ | exact List.nil_sublist _ | apply List.Sublist.cons_cons | apply List.Sublist.cons))) (fun w' H => r_lc rfl (by first | assumption | exact H.fr.cell (by assumption) (by simp)) sc28) ?_ | refine tk (i := 13) rfl (by kernel_rfl) rfl (H.sub (by repeat (first | exact List.Sublist.refl _ | exact List.nil_sublist _ | apply List.Sublist.cons_cons | apply List.Sublist.cons))) (fun w' H => r_ld H rfl sc28 (by assumption)) ?_
      refine tk (i := 14) rfl (by kernel_rfl) rfl (H.sub (by repeat (first | exact List.Sublist.refl _ | exact List.nil_sublist _ | apply List.Sublist.cons_cons | apply List.Sublist.cons))) (fun w' H => r_mv (v := .pointer _) rfl) ?_
      first | refine tk (i := 15) rfl (by kernel_rfl) rfl (H.sub (by repeat (first | exact List.Sublist.refl _ | exact List.nil_sublist _ | apply List.Sublist.cons_cons | apply List.Sublist.cons))) (fun w' H => r_nc rfl) ?_ | refine tk (i := 15) rfl (by kernel_rfl) rfl (H.sub (by repeat (first | exact List.Sublist.refl _ | exact List.nil_sublist _ | apply List.Sublist.cons_cons | apply List.Sublist.cons))) (fun w' H => r_nci rfl) ?_
      refine tk (i := 16) rfl (by kernel_rfl) rfl (H.sub (by repeat (first | exact List.Sublist.refl _ | exact List.nil_sublist _ | apply List.Sublist.cons_cons | apply List.Sublist.cons))) (fun w' H => r_fa rfl fo103_3) ?_
      first | refine tk (i := 17) rfl (by kernel_rfl) rfl (H.sub (by repeat (first | exact List.Sublist.refl _ | exact List.nil_sublist _ | apply List.Sublist.cons_cons | apply List.Sublist.cons))) (fun w' H => r_ld H rfl sc28 rfl) ?_ | refine tk (i := 17) rfl (by kernel_rfl) rfl (H.sub (by repeat (first | exact List.Sublist.refl _ | exact List.nil_sublist _ | apply List.Sublist.cons_cons | apply List.Sublist.cons))) (fun w' H => r_lc rfl (by first | assumption | exact H.fr.cell (by assumption) (by simp)) sc28) ?_ | refine tk (i := 17) rfl (by kernel_rfl) rfl (H.sub (by repeat (first | exact List.Sublist.refl _ | exact List.nil_sublist _ | apply List.Sublist.cons_cons | apply List.Sublist.cons))) (fun w' H => r_ld H rfl sc28 (by assumption)) ?_
      refine tk (i := 18) rfl (by kernel_rfl) rfl (H.sub (by repeat (first | exact List.Sublist.refl _ | exact List.nil_sublist _ | apply List.Sublist.cons_cons | apply List.Sublist.cons))) (fun w' H => r_mv (v := .pointer _) rfl) ?_
      first | refine tk (i := 19) rfl (by kernel_rfl) rfl (H.sub (by repeat (first | exact List.Sublist.refl _ | exact List.nil_sublist _ | apply List.Sublist.cons_cons | apply List.Sublist.cons))) (fun w' H => r_nc rfl) ?_ | refine tk (i := 19) rfl (by kernel_rfl) rfl (H.sub (by repeat (first | exact List.Sublist.refl _ | exact List.nil_sublist _ | apply List.Sublist.cons_cons | apply List.Sublist.cons))) (fun w' H => r_nci rfl) ?_
      refine tk (i := 20) rfl (by kernel_rfl) rfl (H.sub (by repeat (first | exact List.Sublist.refl _ | exact List.nil_sublist _ | apply List.Sublist.cons_cons | apply List.Sublist.cons))) (fun w' H => r_fa rfl fo103_4) ?_
      first | refine tk (i := 21) rfl (by kernel_rfl) rfl (H.sub (by repeat (first | exact List.Sublist.refl _ | exact List.nil_sublist _ | apply List.Sublist.cons_cons | apply List.Sublist.cons))) (fun w' H => r_ld H rfl sc101 rfl) ?_ | refine tk (i := 21) rfl (by kernel_rfl) rfl (H.sub (by repeat (first | exact List.Sublist.refl _ | exact List.nil_sublist _ | apply List.Sublist.cons_cons | apply List.Sublist.cons))) (fun w' H => r_lc rfl (by first | assumption | exact H.fr.cell (by assumption) (by simp)) sc101) ?_ | refine tk (i := 21) rfl (by kernel_rfl) rfl (H.sub (by repeat (first | exact List.Sublist.refl _ | exact List.nil_sublist _ | apply List.Sublist.cons_cons | apply List.Sublist.cons))) (fun w' H => r_ld H rfl sc101 (by assumption)) ?_
      refine tk (i := 22) rfl (by kernel_rfl) rfl (H.sub (by repeat (first | exact List.Sublist.refl _ | exact List.nil_sublist _ | apply List.Sublist.cons_cons | apply List.Sublist.cons))) (fun w' H => r_mv (v := .pointer _) rfl) ?_
      first | refine tk (i := 23) rfl (by kernel_rfl) rfl (H.sub (by repeat (first | exact List.Sublist.refl _ | exact List.nil_sublist _ | apply List.Sublist.cons_cons | apply List.Sublist.cons))) (fun w' H => r_nc rfl) ?_ | refine tk (i := 23) rfl (by kernel_rfl) rfl (H.sub (by repeat (first | exact List.Sublist.refl _ | exact List.nil_sublist _ | apply List.Sublist.cons_cons | apply List.Sublist.cons))) (fun w' H => r_nci rfl) ?_
      refine tk (i := 24) rfl (by kernel_rfl) rfl (H.sub (by repeat (first | exact List.Sublist.refl _ | exact List.nil_sublist _ | apply List.Sublist.cons_cons | apply List.Sublist.cons))) (fun w' H => r_fa rfl fo103_5) ?_
      first | refine tk (i := 25) rfl (by kernel_rfl) rfl (H.sub (by repeat (first | exact List.Sublist.refl _ | exact List.nil_sublist _ | apply List.Sublist.cons_cons | apply List.Sublist.cons))) (fun w' H => r_ld H rfl sc9 rfl) ?_ | refine tk (i := 25) rfl (by kernel_rfl) rfl (H.sub (by repeat (first | exact List.Sublist.refl _ | exact List.nil_sublist _ | apply List.Sublist.cons_cons | apply List.Sublist.cons))) (fun w' H => r_lc rfl (by first | assumption | exact H.fr.cell (by assumption) (by simp)) sc9) ?_ | refine tk (i := 25) rfl (by kernel_rfl) rfl (H.sub (by repeat (first | exact List.Sublist.refl _ | exact List.nil_sublist _ | apply List.Sublist.cons_cons | apply List.Sublist.cons))) (fun w' H => r_ld H rfl sc9 (by assumption)) ?_
      refine tk (i := 26) rfl (by kernel_rfl) rfl (H.sub (by repeat (first | exact List.Sublist.refl _ | exact List.nil_sublist _ | apply List.Sublist.cons_cons | apply List.Sublist.cons))) (fun w' H => r_mv (v := .pointer _) rfl) ?_
      first | refine tk (i := 27) rfl (by kernel_rfl) rfl (H.sub (by repeat (first | exact List.Sublist.refl _ | exact List.nil_sublist _ | apply List.Sublist.cons_cons | apply List.Sublist.cons))) (fun w' H => r_nc rfl) ?_ | refine tk (i := 27) rfl (by kernel_rfl) rfl (H.sub (by repeat (first | exact List.Sublist.refl _ | exact List.nil_sublist _ | apply List.Sublist.cons_cons | apply List.Sublist.cons))) (fun w' H => r_nci rfl) ?_
      refine tk (i := 28) rfl (by kernel_rfl) rfl (H.sub (by repeat (first | exact List.Sublist.refl _ | exact List.nil_sublist _ | apply List.Sublist.cons_cons | apply List.Sublist.cons))) (fun w' H => r_fa rfl fo103_6) ?_
      first | refine tk (i := 29) rfl (by kernel_rfl) rfl (H.sub (by repeat (first | exact List.Sublist.refl _ | exact List.nil_sublist _ | apply List.Sublist.cons_cons | apply List.Sublist.cons))) (fun w' H => r_ld H rfl sc9 rfl) ?_ | refine tk (i := 29) rfl (by kernel_rfl) rfl (H.sub (by repeat (first | exact List.Sublist.refl _ | exact List.nil_sublist _ | apply List.Sublist.cons_cons | apply List.Sublist.cons))) (fun w' H => r_lc rfl (by first | assumption | exact H.fr.cell (by assumption) (by simp)) sc9) ?_ | refine tk (i := 29) rfl (by kernel_rfl) rfl (H.sub (by repeat (first | exact List.Sublist.refl _ | exact List.nil_sublist _ | apply List.Sublist.cons_cons | apply List.Sublist.cons))) (fun w' H => r_ld H rfl sc9 (by assumption)) ?_
      refine tk (i := 30) rfl (by kernel_rfl) rfl (H.sub (by repeat (first | exact List.Sublist.refl _ | exact List.nil_sublist _ | apply List.Sublist.cons_cons | apply List.Sublist.cons))) (fun w' H => r_mv (v := .pointer _) rfl) ?_
      first | refine tk (i := 31) rfl (by kernel_rfl) rfl (H.sub (by repeat (first | exact List.Sublist.refl _ | exact List.nil_sublist _ | apply List.Sublist.cons_cons | apply List.Sublist.cons))) (fun w' H => r_nc rfl) ?_ | refine tk (i := 31) rfl (by kernel_rfl) rfl (H.sub (by repeat (first | exact List.Sublist.refl _ | exact List.nil_sublist _ | apply List.Sublist.cons_cons | apply List.Sublist.cons))) (fun w' H => r_nci rfl) ?_
      refine tk (i := 32) rfl (by kernel_rfl) rfl (H.sub (by repeat (first | exact List.Sublist.refl _ | exact List.nil_sublist _ | apply List.Sublist.cons_cons | apply List.Sublist.cons))) (fun w' H => r_fa rfl fo103_7) ?_
      first | refine tk (i := 33) rfl (by kernel_rfl) rfl (H.sub (by repeat (first | exact List.Sublist.refl _ | exact List.nil_sublist _ | apply List.Sublist.cons_cons | apply List.Sublist.cons))) (fun w' H => r_ld H rfl sc28 rfl) ?_ | refine tk (i := 33) rfl (by kernel_rfl) rfl (H.sub (by repeat (first | exact List.Sublist.refl _ | exact List.nil_sublist _ | apply List.Sublist.cons_cons | apply List.Sublist.cons))) (fun w' H => r_lc rfl (by first | assumption | exact H.fr.cell (by assumption) (by simp)) sc28) ?_ | refine tk (i := 33) rfl (by kernel_rfl) rfl (H.sub (by repeat (first | exact List.Sublist.refl _ | exact List.nil_sublist _ | apply List.Sublist.cons_cons | apply List.Sublist.cons))) (fun w' H => r_ld H rfl sc28 (by assumption)) ?_
      refine tkbu (out := ?o2) (i := 34) rfl (by kernel_rfl) rfl (H.sub (by repeat (first | exact List.Sublist.refl _ | exact List.nil_sublist _ | apply List.Sublist.cons_cons | apply List.Sublist.cons))) ze49 bo49 ?f2 ?_
      case f2 =>
        refine FL.one (v := .int .i64 _) rfl pl49_0 rfl (by first | decide | simp) ?_
        refine FL.one (v := .int .u64 _) rfl pl49_1 rfl (by first | decide | simp) ?_
        refine FL.one (v := .int .u64 _) rfl pl49_2 rfl (by first | decide | simp) ?_
        refine FL.one (v := .int .u64 _) rfl pl49_3 rfl (by first | decide | simp) ?_
        refine FL.one (v := .string _) rfl pl49_4 rfl (by first | decide | simp) ?_
        refine FL.one (v := .string _) rfl pl49_5 rfl (by first | decide | simp) ?_
        refine FL.one (v := .string _) rfl pl49_6 rfl (by first | decide | simp) ?_
        refine FL.one (v := .int .u64 _) rfl pl49_7 rfl (by first | decide | simp) ?_
        exact FL.nil
      refine fk (i := 35) (by kernel_rfl) rfl rfl rfl ?_
      refine bsl (sz := 8) (out := ?o3) H Tryd.underlying22 ze49 sz49_8 (by decide) ?f3 rfl ?_
      case f3 =>
        refine FS.agg (vs := _) rfl rfl (by first | decide | simp) ?_
        exact FS.nil
      intro b3 w5 hb3 H1 F; replace O := O.new F hb3 H1.look; clear H H1 F; have H := O.sh
      refine nl ?_
      refine then_n ?_
      refine ⟨H.sub (by repeat (first | exact List.Sublist.refl _ | exact List.nil_sublist _ | apply List.Sublist.cons_cons | apply List.Sublist.cons)), ?_⟩
      refine fk (i := 36) (by kernel_rfl) rfl rfl rfl ?_
      refine apO (zs := [.int .i64 0, .int .u64 0, .int .u64 0, .int .u64 0, .string ⟨#[]⟩, .string ⟨#[]⟩, .string ⟨#[]⟩, .int .u64 0]) q.cells O rfl rfl Tryd.underlying22 ri49 (by first | rfl | simp) (cells_look H.look) (List.all_eq_true.1 q.cells_one) (by simp) (by omega) (by unfold maxLen; omega) rfl ?_
      clear O H; intro D9 cp9 w6 O
      replace O := O.drop; have H := O.sh
      refine nl ?_
      refine then_n ?_
      refine ⟨H.sub (by repeat (first | exact List.Sublist.refl _ | exact List.nil_sublist _ | apply List.Sublist.cons_cons | apply List.Sublist.cons)), ?_⟩
      refine tk (i := 37) rfl (by kernel_rfl) rfl (H.sub (by repeat (first | exact List.Sublist.refl _ | exact List.nil_sublist _ | apply List.Sublist.cons_cons | apply List.Sublist.cons))) (fun w' H => r_fa rfl fo24_0) ?_
      refine fb (i := 38) (by kernel_rfl) rfl rfl rfl ?_
      refine st (v := .slice _ _ _) H rfl rfl sc22 rfl (by show 0 + 0 < 5; decide) (by omega) ?_
      intro w95 H1 F; replace O := O.put F H1.look; clear H H1 F; have H := O.sh
      refine nl ?_
      refine then_n ?_
      refine dn (by kernel_rfl) ?_
      refine in_n ?_
      refine then_n ?_
      refine rg ?_
      refine add rfl rfl (by first | exact w_i64 (by omega) | exact w_i64 (rng_i64 _) | rfl) rfl ?_
      refine mv (v := .int .i64 _) rfl rfl ?_
      refine nl ?_
      refine loop_n ?_
      exact ⟨(i + 1, D9, cp9), (by (try dsimp only); omega), ⟨by omega, by rw [take_succ_get hq, List.flatMap_append]; exact O⟩, (fC (by first | rfl | exact congrArg (Value.int _) (by first | omega | assumption | (symm; assumption) | (simp; done) | (simp; omega)) | exact congrArg (fun n => Value.slice _ n _) (by first | omega | (simp; done) | (simp; omega))) (fN _)), (by repeat (first | exact Agree.setL rfl Agree.mask | exact Agree.self _ _ | refine Agree.upd rfl ?_ | refine Agree.setL rfl ?_ | refine Agree.mask2 rfl ?_))⟩
    · refine ex ?_
      refine then_e ?_
      refine loop_e ?_
      refine in_hit rfl ?_
      refine then_n ?_
      refine sq ?_
      refine rg ?_
      refine la (vs := gtCells D2 i cap2 512 g pr rb) H rfl ag24_5 rfl rfl rfl ?_
      refine sa (cs' := gtCells D2 i cap2 512 g pr rb) H rfl rfl ag24_5 rfl rfl (by show 0 + 5 ≤ 5; decide) (by omega) rfl ?_
      intro w96 H96 F96; replace O := O.put F96 H96.look; clear H H96 F96; have H := O.sh
      refine nl ?_
      refine then_n ?_
      refine rt ?_
      refine finR_r ?_
      obtain rfl : i = l.length := by omega
      rw [List.take_of_length_le (by omega)] at O
      exact ⟨[_], ⟨finC rfl (H.look (b := b1)) ag24_5, trivial⟩, _, _, rfl, O.sub (List.nil_sublist _)⟩

end Go.Proofs.YthcaejaaalkglaaDoor.X
/- Walks of functions, printed by a program of this claim. -/
namespace Go.Proofs.YthcaejaaalkglaaDoor.X
set_option linter.unusedVariables false
set_option linter.unusedSimpArgs false
open Go Go.RowKit

namespace P24
theorem ag24_5 : aggB Tryd.prog 24 5 = true := by kernel_rfl
theorem ca29 : callable Tryd.prog 29 = true := by kernel_rfl
theorem ca30 : callable Tryd.prog 30 = true := by kernel_rfl
theorem ca31 : callable Tryd.prog 31 = true := by kernel_rfl
theorem ze24 : zeroL Tryd.prog 24 = some [.slice none 0 0, .int .i64 0, .string ⟨#[]⟩, .bool false, .bool false] := by kernel_rfl

end P24
open P24

set_option maxRecDepth 100000 in
set_option maxHeartbeats 1000000 in
theorem c_implGptRead (w : World) (B : Option Addr) (n c : Nat) (ds : List UInt8) (hR : RB w B n ds) (hL : 34816 ≤ n ∧ n ≤ 10000000) (b f : Nat) (hLb : n = 512 * (b + 1)) (hf : 512 * f + 16384 ≤ n) (hcan1 : hdrGood ds 512 = true → fld ds 584 8 = 2 ∧ fld ds 592 4 = 128 ∧ fld ds 596 4 = 128) (hcan2 : hdrGood ds (512 * b) = true → fld ds (512 * b + 72) 8 = (f : Int) ∧ fld ds (512 * b + 80) 4 = 128 ∧ fld ds (512 * b + 84) 4 = 128) (hfit1 : fitsB ds 512 512 = true) (hfit2 : fitsB ds 512 (512 * b) = true) : Calls Tryd.prog 12 #[.slice B n c, .int .i64 512] w (Ret fun v w' => Fr [] w w' ∧ ∃ v1, v = .tuple #[v1, .bool ((hdrGood ds 512 && decide (fld ds 600 4 = crc32 (pcs ds 1024 16384))) || (hdrGood ds (512 * b) && decide (fld ds (512 * b + 24) 8 = (b : Int)) && decide (fld ds (512 * b + 88) 4 = crc32 (pcs ds (512 * f) 16384))))] ∧ ((hdrGood ds 512 && decide (fld ds 600 4 = crc32 (pcs ds 1024 16384))) = true → ∃ D2 cap2, v1 = .agg (gtCells D2 (usedP (pcs ds 1024 16384) 128).length cap2 512 (gT (pcs ds 568 16)) (protB (pcs ds 0 512) (fld ds 544 8 % 4294967296)) false).toArray ∧ OR 49 8 w [] w' [] D2 (usedP (pcs ds 1024 16384) 128).length cap2 ((usedP (pcs ds 1024 16384) 128).flatMap GP.cells)) ∧ ((hdrGood ds 512 && decide (fld ds 600 4 = crc32 (pcs ds 1024 16384))) = false → (hdrGood ds (512 * b) && decide (fld ds (512 * b + 24) 8 = (b : Int)) && decide (fld ds (512 * b + 88) 4 = crc32 (pcs ds (512 * f) 16384))) = true → ∃ D2 cap2, v1 = .agg (gtCells D2 (usedP (pcs ds (512 * f) 16384) 128).length cap2 512 (gT (pcs ds (512 * b + 56) 16)) (protB (pcs ds 0 512) ((fld ds (512 * b + 24) 8) % 4294967296)) true).toArray ∧ OR 49 8 w [] w' [] D2 (usedP (pcs ds (512 * f) 16384) 128).length cap2 ((usedP (pcs ds (512 * f) 16384) 128).flatMap GP.cells)) ∧ ((hdrGood ds 512 && decide (fld ds 600 4 = crc32 (pcs ds 1024 16384))) = false → (hdrGood ds (512 * b) && decide (fld ds (512 * b + 24) 8 = (b : Int)) && decide (fld ds (512 * b + 88) 4 = crc32 (pcs ds (512 * f) 16384))) = false → v1 = .agg (gtCells none 0 0 0 [] false false).toArray)) := by
  refine enterR [.cell 4 24, .tmp 5] Tryd.func12 rfl rfl rfl rfl ?_
  have H := SH.nil w
  have hdl := hR.1
  refine sq ?_
  refine rg ?_
  refine al H ze24 rfl ?_
  clear H; intro b1 w1 hb1 H _
  refine asg (v := .bool _) rfl rfl ?_
  refine nl ?_
  refine then_n ?_
  refine sq ?_
  refine rg ?_
  refine mv (v := .slice _ _ _) rfl rfl ?_
  refine cvBS rfl (by exact hR.keep H.fr) Tryd.underlying30 Tryd.underlying5 Tryd.underlying9 rfl ?_
  refine cl ca30 (c_memoryOf _ ds (by omega)) rfl ?_
  rintro _ w2 ⟨bm, bd, cm, rfl, hcm, K⟩
  replace H := H.join K (by simp); simp only [List.cons_append, List.nil_append] at H; clear K
  refine mv (v := .int .i64 _) rfl rfl ?_
  refine cl ca29 (c_implRead _ bm bd ds.length cm _ _ _ ds (H.look (b := bm)) (RB.pre H) (H.ne_of rfl (y := ⟨bd, _, true⟩) (by repeat (first | exact .head _ | apply List.Mem.tail))) (by omega) hcm b f (by omega) (by omega) hcan1 hcan2 hfit1 hfit2) rfl ?_
  rintro _ w3 ⟨F, ⟨x9, hm9⟩, A9, rfl, hr1, hr2⟩
  replace H := H.put (b := bm) F hm9
  refine mv (v := .tuple _) rfl rfl ?_
  refine xt rfl rfl rfl ?_
  refine xt rfl rfl rfl ?_
  refine asg (v := .pointer _) rfl rfl ?_
  refine asg (v := .bool _) rfl rfl ?_
  refine nl ?_
  refine then_n ?_
  refine sq ?_
  refine sq ?_
  refine rg ?_
  refine mv (v := .bool _) rfl rfl ?_
  refine unot rfl rfl ?_
  refine nl ?_
  refine then_n ?_
  first | refine cd rfl (fun hc1 => ?_) (fun hc1 => ?_) | refine cn rfl (fun hc1 => ?_) (fun hc1 => ?_)   -- test 1
  · have hgg : ((hdrGood ds 512 && decide (fld ds 600 4 = crc32 (pcs ds 1024 16384))) || (hdrGood ds (512 * b) && decide (fld ds (512 * b + 24) 8 = (b : Int)) && decide (fld ds (512 * b + 88) 4 = crc32 (pcs ds (512 * f) 16384)))) = false := by have h8 : (!((hdrGood ds 512 && decide (fld ds 600 4 = crc32 (pcs ds 1024 16384))) || (hdrGood ds (512 * b) && decide (fld ds (512 * b + 24) 8 = (b : Int)) && decide (fld ds (512 * b + 88) 4 = crc32 (pcs ds (512 * f) 16384))))) = true := hc1; cases hq : ((hdrGood ds 512 && decide (fld ds 600 4 = crc32 (pcs ds 1024 16384))) || (hdrGood ds (512 * b) && decide (fld ds (512 * b + 24) 8 = (b : Int)) && decide (fld ds (512 * b + 88) 4 = crc32 (pcs ds (512 * f) 16384)))) with | true => rw [hq] at h8; exact Bool.noConfusion h8 | false => rfl
    refine sq ?_
    refine rg ?_
    first | refine la H rfl ag24_5 rfl rfl rfl ?_ | refine lw rfl ag24_5 rfl (by assumption) rfl ?_
    refine sa H rfl rfl ag24_5 rfl rfl (by decide) (by omega) rfl ?_
    clear H; intro w4 H _
    refine asg (v := .bool _) rfl rfl ?_
    refine nl ?_
    refine then_n ?_
    refine rt ?_
    refine then_r ?_
    refine finR_r ?_
    exact ⟨[_, _], ⟨finC rfl (H.look (b := b1)) ag24_5, rfl, trivial⟩, H.fr, _, by rw [hgg]; rfl, fun h => by rw [h] at hgg; exact Bool.noConfusion hgg, fun h1 h2 => by rw [h1, h2] at hgg; exact Bool.noConfusion hgg, fun _ _ => rfl⟩
  · have hgg : ((hdrGood ds 512 && decide (fld ds 600 4 = crc32 (pcs ds 1024 16384))) || (hdrGood ds (512 * b) && decide (fld ds (512 * b + 24) 8 = (b : Int)) && decide (fld ds (512 * b + 88) 4 = crc32 (pcs ds (512 * f) 16384)))) = true := by have h8 : (!((hdrGood ds 512 && decide (fld ds 600 4 = crc32 (pcs ds 1024 16384))) || (hdrGood ds (512 * b) && decide (fld ds (512 * b + 24) 8 = (b : Int)) && decide (fld ds (512 * b + 88) 4 = crc32 (pcs ds (512 * f) 16384))))) = false := hc1; cases hq : ((hdrGood ds 512 && decide (fld ds 600 4 = crc32 (pcs ds 1024 16384))) || (hdrGood ds (512 * b) && decide (fld ds (512 * b + 24) 8 = (b : Int)) && decide (fld ds (512 * b + 88) 4 = crc32 (pcs ds (512 * f) 16384)))) with | false => rw [hq] at h8; exact Bool.noConfusion h8 | true => rfl
    have hX : ∃ p D cap l qs g pr rb crc my oth fi lx f2, A9 = some ⟨p, 0, none⟩ ∧ l.map Prod.snd = qs.map pc ∧ l.length ≤ 128 ∧ w3.heap[p]? = some (.cells (tbC D l.length cap 512 512 g pr rb 128 128 f2 crc my oth fi lx true).toArray 99 (0, 0)) ∧ PR 103 w3 D l ∧ ((hdrGood ds 512 && decide (fld ds 600 4 = crc32 (pcs ds 1024 16384))) = true → g = gT (pcs ds 568 16) ∧ pr = protB (pcs ds 0 512) (fld ds 544 8 % 4294967296) ∧ rb = false ∧ qs = usedP (pcs ds 1024 16384) 128) ∧ ((hdrGood ds 512 && decide (fld ds 600 4 = crc32 (pcs ds 1024 16384))) = false → g = gT (pcs ds (512 * b + 56) 16) ∧ pr = protB (pcs ds 0 512) ((fld ds (512 * b + 24) 8) % 4294967296) ∧ rb = true ∧ qs = usedP (pcs ds (512 * f) 16384) 128) := by
      cases hq1 : (hdrGood ds 512 && decide (fld ds 600 4 = crc32 (pcs ds 1024 16384))) with
      | true =>
        obtain ⟨p, hp, D, cap, l, k1, k2, O⟩ := hr1 hq1
        exact ⟨p, D, cap, l, _, _, _, _, _, _, _, _, _, _, hp, k1.trans (usedC_P _ _), k2, O.sh.look (b := p), O.pr (fun x hx => .tail _ hx), fun _ => ⟨rfl, rfl, rfl, rfl⟩, fun h => by exact Bool.noConfusion h⟩
      | false =>
        rw [hq1, Bool.false_or] at hgg
        obtain ⟨p, hp, D, cap, l, k1, k2, O⟩ := hr2 hq1 hgg
        exact ⟨p, D, cap, l, _, _, _, _, _, _, _, _, _, _, hp, k1.trans (usedC_P _ _), k2, O.sh.look (b := p), O.pr (fun x hx => .tail _ hx), fun h => by exact Bool.noConfusion h, fun _ => ⟨rfl, rfl, rfl, rfl⟩⟩
    obtain ⟨p, D, cap, l, qs, g, pr, rb, crc, my, oth, fi, lx, f2, rfl, k1, k2, hp, hpr, q1, q2⟩ := hX
    have hql : qs.length = l.length := by have := congrArg List.length k1; simpa using this.symm
    refine sk ?_
    refine then_n ?_
    refine sq ?_
    refine rg ?_
    refine mv (v := .pointer _) rfl rfl ?_
    refine cl ca31 (c_told _ p D cap l qs g pr rb _ _ _ _ _ _ _ _ _ hp hpr k1 (by omega)) rfl ?_
    rintro _ w5 ⟨D2, cap2, rfl, O⟩
    replace O := O.joinN H (by simp)
    simp only [List.append_nil] at O
    replace H := O.sh
    refine sa (cs' := gtCells D2 l.length cap2 512 g pr rb) H rfl rfl ag24_5 rfl rfl (by show 0 + 5 ≤ 5; decide) (by omega) rfl ?_
    intro w96 H96 F96; replace O := O.put F96 H96.look; clear H H96 F96; have H := O.sh
    refine asg (v := .bool _) rfl rfl ?_
    refine nl ?_
    refine then_n ?_
    refine rt ?_
    refine finR_r ?_
    refine ⟨[_, _], ⟨finC rfl (H.look (b := b1)) ag24_5, rfl, trivial⟩, H.fr, _, by rw [hgg]; rfl, fun h => ?_, fun h1 h2 => ?_, fun h1 h2 => by rw [h1, h2] at hgg; exact Bool.noConfusion hgg⟩
    · obtain ⟨rfl, rfl, rfl, rfl⟩ := q1 h
      rw [hql]
      exact ⟨D2, cap2, rfl, O.sub (List.nil_sublist _)⟩
    · obtain ⟨rfl, rfl, rfl, rfl⟩ := q2 h1
      rw [hql]
      exact ⟨D2, cap2, rfl, O.sub (List.nil_sublist _)⟩

end Go.Proofs.YthcaejaaalkglaaDoor.X
/- Walks of functions, printed by a program of this claim. -/
namespace Go.Proofs.YthcaejaaalkglaaDoor.X
set_option linter.unusedVariables false
set_option linter.unusedSimpArgs false
open Go Go.RowKit

namespace P25
theorem ag49_8 : aggB Tryd.prog 49 8 = true := by kernel_rfl
theorem ca22 : callable Tryd.prog 22 = true := by kernel_rfl
theorem ca32 : callable Tryd.prog 32 = true := by kernel_rfl
theorem fo24_0 : fieldOff Tryd.prog 24 0 = some 0 := by kernel_rfl
theorem fo24_2 : fieldOff Tryd.prog 24 2 = some 2 := by kernel_rfl
theorem fo49_0 : fieldOff Tryd.prog 49 0 = some 0 := by kernel_rfl
theorem fo49_1 : fieldOff Tryd.prog 49 1 = some 1 := by kernel_rfl
theorem fo49_2 : fieldOff Tryd.prog 49 2 = some 2 := by kernel_rfl
theorem fo49_3 : fieldOff Tryd.prog 49 3 = some 3 := by kernel_rfl
theorem fo49_4 : fieldOff Tryd.prog 49 4 = some 4 := by kernel_rfl
theorem fo49_5 : fieldOff Tryd.prog 49 5 = some 5 := by kernel_rfl
theorem fo49_6 : fieldOff Tryd.prog 49 6 = some 6 := by kernel_rfl
theorem fo49_7 : fieldOff Tryd.prog 49 7 = some 7 := by kernel_rfl
theorem sc22 : scalarB Tryd.prog 22 = true := by kernel_rfl
theorem sc28 : scalarB Tryd.prog 28 = true := by kernel_rfl
theorem sc3 : scalarB Tryd.prog 3 = true := by kernel_rfl
theorem sc9 : scalarB Tryd.prog 9 = true := by kernel_rfl
theorem sz49_8 : sizeB Tryd.prog 49 8 = true := by kernel_rfl
theorem ze49 : zeroL Tryd.prog 49 = some [.int .i64 0, .int .u64 0, .int .u64 0, .int .u64 0, .string ⟨#[]⟩, .string ⟨#[]⟩, .string ⟨#[]⟩, .int .u64 0] := by kernel_rfl

end P25
open P25

set_option maxRecDepth 100000 in
set_option maxHeartbeats 1000000 in
theorem c_samePart (w : World) (p q : GP) : Calls Tryd.prog 32 #[.agg p.cells.toArray, .agg q.cells.toArray] w (Ret fun v w' => v = .bool (sameP p q) ∧ Fr [] w w') := by
  refine enter (fun ρ => ρ 4) Tryd.func32 rfl rfl rfl (res1 rfl) ?_
  have H := SH.nil w
  refine sq ?_
  refine rg ?_
  refine bx (v := .agg _) H rfl rfl rfl ?_
  clear H; intro b1 w1 hb1 H _
  refine bx (v := .agg _) H rfl rfl rfl ?_
  clear H; intro b2 w2 hb2 H _
  refine asg (v := .bool _) rfl rfl ?_
  refine nl ?_
  refine then_n ?_
  refine sq ?_
  refine rg ?_
  refine fa rfl fo49_0 rfl ?_
  first | refine ld H rfl sc3 rfl rfl ?_ | refine lc rfl (by first | assumption | exact H.fr.cell (by assumption) (by simp)) sc3 rfl ?_ | refine ld H rfl sc3 (by assumption) rfl ?_
  refine fa rfl fo49_0 rfl ?_
  first | refine ld H rfl sc3 rfl rfl ?_ | refine lc rfl (by first | assumption | exact H.fr.cell (by assumption) (by simp)) sc3 rfl ?_ | refine ld H rfl sc3 (by assumption) rfl ?_
  refine eql rfl rfl rfl ?_
  refine mv (v := .bool _) rfl rfl ?_
  first | refine spd (t := 10) rfl (fun hg1 => ?_) (fun hg1 => ?_) | refine sp (t := 10) rfl (fun hg1 => ?_) (fun hg1 => ?_)   -- guard 1
  · refine gy rfl ?_
    refine fa rfl fo49_1 rfl ?_
    refine gy rfl ?_
    first | refine ld H rfl sc28 rfl rfl ?_ | refine lc rfl (by first | assumption | exact H.fr.cell (by assumption) (by simp)) sc28 rfl ?_ | refine ld H rfl sc28 (by assumption) rfl ?_
    refine gy rfl ?_
    refine fa rfl fo49_1 rfl ?_
    refine gy rfl ?_
    first | refine ld H rfl sc28 rfl rfl ?_ | refine lc rfl (by first | assumption | exact H.fr.cell (by assumption) (by simp)) sc28 rfl ?_ | refine ld H rfl sc28 (by assumption) rfl ?_
    refine gy rfl ?_
    refine eql rfl rfl rfl ?_
    refine pkT (v := .bool _) rfl rfl rfl ?_
    refine mv (v := .bool _) rfl rfl ?_
    first | refine spd (t := 17) rfl (fun hg2 => ?_) (fun hg2 => ?_) | refine sp (t := 17) rfl (fun hg2 => ?_) (fun hg2 => ?_)   -- guard 2
    · refine gy rfl ?_
      refine fa rfl fo49_2 rfl ?_
      refine gy rfl ?_
      first | refine ld H rfl sc28 rfl rfl ?_ | refine lc rfl (by first | assumption | exact H.fr.cell (by assumption) (by simp)) sc28 rfl ?_ | refine ld H rfl sc28 (by assumption) rfl ?_
      refine gy rfl ?_
      refine fa rfl fo49_2 rfl ?_
      refine gy rfl ?_
      first | refine ld H rfl sc28 rfl rfl ?_ | refine lc rfl (by first | assumption | exact H.fr.cell (by assumption) (by simp)) sc28 rfl ?_ | refine ld H rfl sc28 (by assumption) rfl ?_
      refine gy rfl ?_
      refine eql rfl rfl rfl ?_
      refine pkT (v := .bool _) rfl rfl rfl ?_
      refine mv (v := .bool _) rfl rfl ?_
      first | refine spd (t := 24) rfl (fun hg3 => ?_) (fun hg3 => ?_) | refine sp (t := 24) rfl (fun hg3 => ?_) (fun hg3 => ?_)   -- guard 3
      · refine gy rfl ?_
        refine fa rfl fo49_3 rfl ?_
        refine gy rfl ?_
        first | refine ld H rfl sc28 rfl rfl ?_ | refine lc rfl (by first | assumption | exact H.fr.cell (by assumption) (by simp)) sc28 rfl ?_ | refine ld H rfl sc28 (by assumption) rfl ?_
        refine gy rfl ?_
        refine fa rfl fo49_3 rfl ?_
        refine gy rfl ?_
        first | refine ld H rfl sc28 rfl rfl ?_ | refine lc rfl (by first | assumption | exact H.fr.cell (by assumption) (by simp)) sc28 rfl ?_ | refine ld H rfl sc28 (by assumption) rfl ?_
        refine gy rfl ?_
        refine eql rfl rfl rfl ?_
        refine pkT (v := .bool _) rfl rfl rfl ?_
        refine mv (v := .bool _) rfl rfl ?_
        first | refine spd (t := 31) rfl (fun hg4 => ?_) (fun hg4 => ?_) | refine sp (t := 31) rfl (fun hg4 => ?_) (fun hg4 => ?_)   -- guard 4
        · refine gy rfl ?_
          refine fa rfl fo49_4 rfl ?_
          refine gy rfl ?_
          first | refine ld H rfl sc9 rfl rfl ?_ | refine lc rfl (by first | assumption | exact H.fr.cell (by assumption) (by simp)) sc9 rfl ?_ | refine ld H rfl sc9 (by assumption) rfl ?_
          refine gy rfl ?_
          refine fa rfl fo49_4 rfl ?_
          refine gy rfl ?_
          first | refine ld H rfl sc9 rfl rfl ?_ | refine lc rfl (by first | assumption | exact H.fr.cell (by assumption) (by simp)) sc9 rfl ?_ | refine ld H rfl sc9 (by assumption) rfl ?_
          refine gy rfl ?_
          refine cl ca22 (c_sameGuid _ _ _) rfl ?_
          rintro _ w3 ⟨rfl, F⟩
          replace H := H.keep F; clear F
          refine pkT (v := .bool _) rfl rfl rfl ?_
          refine mv (v := .bool _) rfl rfl ?_
          first | refine spd (t := 38) rfl (fun hg5 => ?_) (fun hg5 => ?_) | refine sp (t := 38) rfl (fun hg5 => ?_) (fun hg5 => ?_)   -- guard 5
          · refine gy rfl ?_
            refine fa rfl fo49_6 rfl ?_
            refine gy rfl ?_
            first | refine ld H rfl sc9 rfl rfl ?_ | refine lc rfl (by first | assumption | exact H.fr.cell (by assumption) (by simp)) sc9 rfl ?_ | refine ld H rfl sc9 (by assumption) rfl ?_
            refine gy rfl ?_
            refine fa rfl fo49_6 rfl ?_
            refine gy rfl ?_
            first | refine ld H rfl sc9 rfl rfl ?_ | refine lc rfl (by first | assumption | exact H.fr.cell (by assumption) (by simp)) sc9 rfl ?_ | refine ld H rfl sc9 (by assumption) rfl ?_
            refine gy rfl ?_
            refine cl ca22 (c_sameGuid _ _ _) rfl ?_
            rintro _ w4 ⟨rfl, F⟩
            replace H := H.keep F; clear F
            refine pkT (v := .bool _) rfl rfl rfl ?_
            refine mv (v := .bool _) rfl rfl ?_
            first | refine spd (t := 45) rfl (fun hg6 => ?_) (fun hg6 => ?_) | refine sp (t := 45) rfl (fun hg6 => ?_) (fun hg6 => ?_)   -- guard 6
            · refine gy rfl ?_
              refine fa rfl fo49_5 rfl ?_
              refine gy rfl ?_
              first | refine ld H rfl sc9 rfl rfl ?_ | refine lc rfl (by first | assumption | exact H.fr.cell (by assumption) (by simp)) sc9 rfl ?_ | refine ld H rfl sc9 (by assumption) rfl ?_
              refine gy rfl ?_
              refine fa rfl fo49_5 rfl ?_
              refine gy rfl ?_
              first | refine ld H rfl sc9 rfl rfl ?_ | refine lc rfl (by first | assumption | exact H.fr.cell (by assumption) (by simp)) sc9 rfl ?_ | refine ld H rfl sc9 (by assumption) rfl ?_
              refine gy rfl ?_
              refine eqlT rfl rfl rfl ?_
              refine pkT (v := .bool _) rfl rfl rfl ?_
              refine mv (v := .bool _) rfl rfl ?_
              first | refine spd (t := 52) rfl (fun hg7 => ?_) (fun hg7 => ?_) | refine sp (t := 52) rfl (fun hg7 => ?_) (fun hg7 => ?_)   -- guard 7
              · refine gy rfl ?_
                refine fa rfl fo49_7 rfl ?_
                refine gy rfl ?_
                first | refine ld H rfl sc28 rfl rfl ?_ | refine lc rfl (by first | assumption | exact H.fr.cell (by assumption) (by simp)) sc28 rfl ?_ | refine ld H rfl sc28 (by assumption) rfl ?_
                refine gy rfl ?_
                refine fa rfl fo49_7 rfl ?_
                refine gy rfl ?_
                first | refine ld H rfl sc28 rfl rfl ?_ | refine lc rfl (by first | assumption | exact H.fr.cell (by assumption) (by simp)) sc28 rfl ?_ | refine ld H rfl sc28 (by assumption) rfl ?_
                refine gy rfl ?_
                refine eql rfl rfl rfl ?_
                refine pkT (v := .bool _) rfl rfl rfl ?_
                refine asg (v := .bool _) rfl rfl ?_
                refine nl ?_
                refine then_n ?_
                refine rt ?_
                refine fin_r ?_
                refine ⟨congrArg Value.bool ?_, H.fr⟩
                first | (simp [sameP, hg1, hg2, hg3, hg4, hg5, hg6, hg7]; done) | (simp [sameP, hg1, hg2, hg3, hg4, hg5, hg6]; done) | (simp [sameP, hg1, hg2, hg3, hg4, hg5]; done) | (simp [sameP, hg1, hg2, hg3, hg4]; done) | (simp [sameP, hg1, hg2, hg3]; done) | (simp [sameP, hg1, hg2]; done) | (simp [sameP, hg1]; done)
              · refine gn rfl rfl ?_
                refine gn rfl rfl ?_
                refine gn rfl rfl ?_
                refine gn rfl rfl ?_
                refine gn rfl rfl ?_
                refine pkF (v := .bool _) rfl rfl rfl ?_
                refine asg (v := .bool _) rfl rfl ?_
                refine nl ?_
                refine then_n ?_
                refine rt ?_
                refine fin_r ?_
                refine ⟨congrArg Value.bool ?_, H.fr⟩
                first | (simp [sameP, hg1, hg2, hg3, hg4, hg5, hg6, hg7]; done) | (simp [sameP, hg1, hg2, hg3, hg4, hg5, hg6]; done) | (simp [sameP, hg1, hg2, hg3, hg4, hg5]; done) | (simp [sameP, hg1, hg2, hg3, hg4]; done) | (simp [sameP, hg1, hg2, hg3]; done) | (simp [sameP, hg1, hg2]; done) | (simp [sameP, hg1]; done)
            · refine gn rfl rfl ?_
              refine gn rfl rfl ?_
              refine gn rfl rfl ?_
              refine gn rfl rfl ?_
              refine gn rfl rfl ?_
              refine pkF (v := .bool _) rfl rfl rfl ?_
              refine mv (v := .bool _) rfl rfl ?_
              refine gn rfl rfl ?_
              refine gn rfl rfl ?_
              refine gn rfl rfl ?_
              refine gn rfl rfl ?_
              refine gn rfl rfl ?_
              refine pkF (v := .bool _) rfl rfl rfl ?_
              refine asg (v := .bool _) rfl rfl ?_
              refine nl ?_
              refine then_n ?_
              refine rt ?_
              refine fin_r ?_
              refine ⟨congrArg Value.bool ?_, H.fr⟩
              first | (simp [sameP, hg1, hg2, hg3, hg4, hg5, hg6, hg7]; done) | (simp [sameP, hg1, hg2, hg3, hg4, hg5, hg6]; done) | (simp [sameP, hg1, hg2, hg3, hg4, hg5]; done) | (simp [sameP, hg1, hg2, hg3, hg4]; done) | (simp [sameP, hg1, hg2, hg3]; done) | (simp [sameP, hg1, hg2]; done) | (simp [sameP, hg1]; done)
          · refine gn rfl rfl ?_
            refine gn rfl rfl ?_
            refine gn rfl rfl ?_
            refine gn rfl rfl ?_
            refine gn rfl rfl ?_
            refine pkF (v := .bool _) rfl rfl rfl ?_
            refine mv (v := .bool _) rfl rfl ?_
            refine gn rfl rfl ?_
            refine gn rfl rfl ?_
            refine gn rfl rfl ?_
            refine gn rfl rfl ?_
            refine gn rfl rfl ?_
            refine pkF (v := .bool _) rfl rfl rfl ?_
            refine mv (v := .bool _) rfl rfl ?_
            refine gn rfl rfl ?_
            refine gn rfl rfl ?_
            refine gn rfl rfl ?_
            refine gn rfl rfl ?_
            refine gn rfl rfl ?_
            refine pkF (v := .bool _) rfl rfl rfl ?_
            refine asg (v := .bool _) rfl rfl ?_
            refine nl ?_
            refine then_n ?_
            refine rt ?_
            refine fin_r ?_
            refine ⟨congrArg Value.bool ?_, H.fr⟩
            first | (simp [sameP, hg1, hg2, hg3, hg4, hg5, hg6, hg7]; done) | (simp [sameP, hg1, hg2, hg3, hg4, hg5, hg6]; done) | (simp [sameP, hg1, hg2, hg3, hg4, hg5]; done) | (simp [sameP, hg1, hg2, hg3, hg4]; done) | (simp [sameP, hg1, hg2, hg3]; done) | (simp [sameP, hg1, hg2]; done) | (simp [sameP, hg1]; done)
        · refine gn rfl rfl ?_
          refine gn rfl rfl ?_
          refine gn rfl rfl ?_
          refine gn rfl rfl ?_
          refine gn rfl rfl ?_
          refine pkF (v := .bool _) rfl rfl rfl ?_
          refine mv (v := .bool _) rfl rfl ?_
          refine gn rfl rfl ?_
          refine gn rfl rfl ?_
          refine gn rfl rfl ?_
          refine gn rfl rfl ?_
          refine gn rfl rfl ?_
          refine pkF (v := .bool _) rfl rfl rfl ?_
          refine mv (v := .bool _) rfl rfl ?_
          refine gn rfl rfl ?_
          refine gn rfl rfl ?_
          refine gn rfl rfl ?_
          refine gn rfl rfl ?_
          refine gn rfl rfl ?_
          refine pkF (v := .bool _) rfl rfl rfl ?_
          refine mv (v := .bool _) rfl rfl ?_
          refine gn rfl rfl ?_
          refine gn rfl rfl ?_
          refine gn rfl rfl ?_
          refine gn rfl rfl ?_
          refine gn rfl rfl ?_
          refine pkF (v := .bool _) rfl rfl rfl ?_
          refine asg (v := .bool _) rfl rfl ?_
          refine nl ?_
          refine then_n ?_
          refine rt ?_
          refine fin_r ?_
          refine ⟨congrArg Value.bool ?_, H.fr⟩
          first | (simp [sameP, hg1, hg2, hg3, hg4, hg5, hg6, hg7]; done) | (simp [sameP, hg1, hg2, hg3, hg4, hg5, hg6]; done) | (simp [sameP, hg1, hg2, hg3, hg4, hg5]; done) | (simp [sameP, hg1, hg2, hg3, hg4]; done) | (simp [sameP, hg1, hg2, hg3]; done) | (simp [sameP, hg1, hg2]; done) | (simp [sameP, hg1]; done)
      · refine gn rfl rfl ?_
        refine gn rfl rfl ?_
        refine gn rfl rfl ?_
        refine gn rfl rfl ?_
        refine gn rfl rfl ?_
        refine pkF (v := .bool _) rfl rfl rfl ?_
        refine mv (v := .bool _) rfl rfl ?_
        refine gn rfl rfl ?_
        refine gn rfl rfl ?_
        refine gn rfl rfl ?_
        refine gn rfl rfl ?_
        refine gn rfl rfl ?_
        refine pkF (v := .bool _) rfl rfl rfl ?_
        refine mv (v := .bool _) rfl rfl ?_
        refine gn rfl rfl ?_
        refine gn rfl rfl ?_
        refine gn rfl rfl ?_
        refine gn rfl rfl ?_
        refine gn rfl rfl ?_
        refine pkF (v := .bool _) rfl rfl rfl ?_
        refine mv (v := .bool _) rfl rfl ?_
        refine gn rfl rfl ?_
        refine gn rfl rfl ?_
        refine gn rfl rfl ?_
        refine gn rfl rfl ?_
        refine gn rfl rfl ?_
        refine pkF (v := .bool _) rfl rfl rfl ?_
        refine mv (v := .bool _) rfl rfl ?_
        refine gn rfl rfl ?_
        refine gn rfl rfl ?_
        refine gn rfl rfl ?_
        refine gn rfl rfl ?_
        refine gn rfl rfl ?_
        refine pkF (v := .bool _) rfl rfl rfl ?_
        refine asg (v := .bool _) rfl rfl ?_
        refine nl ?_
        refine then_n ?_
        refine rt ?_
        refine fin_r ?_
        refine ⟨congrArg Value.bool ?_, H.fr⟩
        first | (simp [sameP, hg1, hg2, hg3, hg4, hg5, hg6, hg7]; done) | (simp [sameP, hg1, hg2, hg3, hg4, hg5, hg6]; done) | (simp [sameP, hg1, hg2, hg3, hg4, hg5]; done) | (simp [sameP, hg1, hg2, hg3, hg4]; done) | (simp [sameP, hg1, hg2, hg3]; done) | (simp [sameP, hg1, hg2]; done) | (simp [sameP, hg1]; done)
    · refine gn rfl rfl ?_
      refine gn rfl rfl ?_
      refine gn rfl rfl ?_
      refine gn rfl rfl ?_
      refine gn rfl rfl ?_
      refine pkF (v := .bool _) rfl rfl rfl ?_
      refine mv (v := .bool _) rfl rfl ?_
      refine gn rfl rfl ?_
      refine gn rfl rfl ?_
      refine gn rfl rfl ?_
      refine gn rfl rfl ?_
      refine gn rfl rfl ?_
      refine pkF (v := .bool _) rfl rfl rfl ?_
      refine mv (v := .bool _) rfl rfl ?_
      refine gn rfl rfl ?_
      refine gn rfl rfl ?_
      refine gn rfl rfl ?_
      refine gn rfl rfl ?_
      refine gn rfl rfl ?_
      refine pkF (v := .bool _) rfl rfl rfl ?_
      refine mv (v := .bool _) rfl rfl ?_
      refine gn rfl rfl ?_
      refine gn rfl rfl ?_
      refine gn rfl rfl ?_
      refine gn rfl rfl ?_
      refine gn rfl rfl ?_
      refine pkF (v := .bool _) rfl rfl rfl ?_
      refine mv (v := .bool _) rfl rfl ?_
      refine gn rfl rfl ?_
      refine gn rfl rfl ?_
      refine gn rfl rfl ?_
      refine gn rfl rfl ?_
      refine gn rfl rfl ?_
      refine pkF (v := .bool _) rfl rfl rfl ?_
      refine mv (v := .bool _) rfl rfl ?_
      refine gn rfl rfl ?_
      refine gn rfl rfl ?_
      refine gn rfl rfl ?_
      refine gn rfl rfl ?_
      refine gn rfl rfl ?_
      refine pkF (v := .bool _) rfl rfl rfl ?_
      refine asg (v := .bool _) rfl rfl ?_
      refine nl ?_
      refine then_n ?_
      refine rt ?_
      refine fin_r ?_
      refine ⟨congrArg Value.bool ?_, H.fr⟩
      first | (simp [sameP, hg1, hg2, hg3, hg4, hg5, hg6, hg7]; done) | (simp [sameP, hg1, hg2, hg3, hg4, hg5, hg6]; done) | (simp [sameP, hg1, hg2, hg3, hg4, hg5]; done) | (simp [sameP, hg1, hg2, hg3, hg4]; done) | (simp [sameP, hg1, hg2, hg3]; done) | (simp [sameP, hg1, hg2]; done) | (simp [sameP, hg1]; done)
  · refine gn rfl rfl ?_
    refine gn rfl rfl ?_
    refine gn rfl rfl ?_
    refine gn rfl rfl ?_
    refine gn rfl rfl ?_
    refine pkF (v := .bool _) rfl rfl rfl ?_
    refine mv (v := .bool _) rfl rfl ?_
    refine gn rfl rfl ?_
    refine gn rfl rfl ?_
    refine gn rfl rfl ?_
    refine gn rfl rfl ?_
    refine gn rfl rfl ?_
    refine pkF (v := .bool _) rfl rfl rfl ?_
    refine mv (v := .bool _) rfl rfl ?_
    refine gn rfl rfl ?_
    refine gn rfl rfl ?_
    refine gn rfl rfl ?_
    refine gn rfl rfl ?_
    refine gn rfl rfl ?_
    refine pkF (v := .bool _) rfl rfl rfl ?_
    refine mv (v := .bool _) rfl rfl ?_
    refine gn rfl rfl ?_
    refine gn rfl rfl ?_
    refine gn rfl rfl ?_
    refine gn rfl rfl ?_
    refine gn rfl rfl ?_
    refine pkF (v := .bool _) rfl rfl rfl ?_
    refine mv (v := .bool _) rfl rfl ?_
    refine gn rfl rfl ?_
    refine gn rfl rfl ?_
    refine gn rfl rfl ?_
    refine gn rfl rfl ?_
    refine gn rfl rfl ?_
    refine pkF (v := .bool _) rfl rfl rfl ?_
    refine mv (v := .bool _) rfl rfl ?_
    refine gn rfl rfl ?_
    refine gn rfl rfl ?_
    refine gn rfl rfl ?_
    refine gn rfl rfl ?_
    refine gn rfl rfl ?_
    refine pkF (v := .bool _) rfl rfl rfl ?_
    refine mv (v := .bool _) rfl rfl ?_
    refine gn rfl rfl ?_
    refine gn rfl rfl ?_
    refine gn rfl rfl ?_
    refine gn rfl rfl ?_
    refine gn rfl rfl ?_
    refine pkF (v := .bool _) rfl rfl rfl ?_
    refine asg (v := .bool _) rfl rfl ?_
    refine nl ?_
    refine then_n ?_
    refine rt ?_
    refine fin_r ?_
    refine ⟨congrArg Value.bool ?_, H.fr⟩
    first | (simp [sameP, hg1, hg2, hg3, hg4, hg5, hg6, hg7]; done) | (simp [sameP, hg1, hg2, hg3, hg4, hg5, hg6]; done) | (simp [sameP, hg1, hg2, hg3, hg4, hg5]; done) | (simp [sameP, hg1, hg2, hg3, hg4]; done) | (simp [sameP, hg1, hg2, hg3]; done) | (simp [sameP, hg1, hg2]; done) | (simp [sameP, hg1]; done)

set_option maxRecDepth 100000 in
set_option maxHeartbeats 1000000 in
theorem c_sameGpt (w : World) (D1 D2 : Option Addr) (m1 c1 m2 c2 : Nat) (g1 g2 : List UInt8) (pr1 rc1 pr2 rc2 : Bool) (ps qs : List GP) (h1 : RG w D1 m1 c1 ps) (h2 : RG w D2 m2 c2 qs) (hm : m1 ≤ 1000) : Calls Tryd.prog 13 #[.agg (gtCells D1 m1 c1 512 g1 pr1 rc1).toArray, .agg (gtCells D2 m2 c2 512 g2 pr2 rc2).toArray] w (Ret fun v w' => v = .bool (sameT g1 g2 ps qs) ∧ Fr [] w w') := by
  refine enter (fun ρ => ρ 4) Tryd.func13 rfl rfl rfl (res1 rfl) ?_
  have H := SH.nil w
  have hl1 := h1.len
  have hl2 := h2.len
  refine sq ?_
  refine rg ?_
  refine bx (v := .agg _) H rfl rfl rfl ?_
  clear H; intro b1 w1 hb1 H _
  refine bx (v := .agg _) H rfl rfl rfl ?_
  clear H; intro b2 w2 hb2 H _
  refine asg (v := .bool _) rfl rfl ?_
  refine nl ?_
  refine then_n ?_
  refine sq ?_
  refine sq ?_
  refine rg ?_
  refine fa rfl fo24_2 rfl ?_
  first | refine ld H rfl sc9 rfl rfl ?_ | refine lc rfl (by first | assumption | exact H.fr.cell (by assumption) (by simp)) sc9 rfl ?_ | refine ld H rfl sc9 (by assumption) rfl ?_
  refine fa rfl fo24_2 rfl ?_
  first | refine ld H rfl sc9 rfl rfl ?_ | refine lc rfl (by first | assumption | exact H.fr.cell (by assumption) (by simp)) sc9 rfl ?_ | refine ld H rfl sc9 (by assumption) rfl ?_
  refine cl ca22 (c_sameGuid _ _ _) rfl ?_
  rintro _ w3 ⟨rfl, F⟩
  replace H := H.keep F; clear F
  refine unot rfl rfl ?_
  refine mv (v := .bool _) rfl rfl ?_
  first | refine spd (t := 13) rfl (fun hg1 => ?_) (fun hg1 => ?_) | refine sp (t := 13) rfl (fun hg1 => ?_) (fun hg1 => ?_)   -- guard 1
  · refine gn rfl rfl ?_
    refine gn rfl rfl ?_
    refine gn rfl rfl ?_
    refine gn rfl rfl ?_
    refine gn rfl rfl ?_
    refine gn rfl rfl ?_
    refine gn rfl rfl ?_
    refine pkT (v := .bool _) rfl rfl rfl ?_
    refine nl ?_
    refine then_n ?_
    refine cbT rfl rfl ?_
    refine sq ?_
    refine rg ?_
    refine asg (v := .bool _) rfl rfl ?_
    refine nl ?_
    refine then_n ?_
    refine rt ?_
    refine then_r ?_
    refine fin_r ?_
    have hz : sameG g1 g2 = false := by simpa using hg1
    exact ⟨congrArg Value.bool (by unfold sameT; rw [hz]; rfl), H.fr⟩
  · refine gy rfl ?_
    refine fa rfl fo24_0 rfl ?_
    refine gy rfl ?_
    first | refine ld H rfl sc22 rfl rfl ?_ | refine lc rfl (by first | assumption | exact H.fr.cell (by assumption) (by simp)) sc22 rfl ?_ | refine ld H rfl sc22 (by assumption) rfl ?_
    refine gy rfl ?_
    refine lnS rfl Tryd.underlying22 rfl ?_
    refine gy rfl ?_
    refine fa rfl fo24_0 rfl ?_
    refine gy rfl ?_
    first | refine ld H rfl sc22 rfl rfl ?_ | refine lc rfl (by first | assumption | exact H.fr.cell (by assumption) (by simp)) sc22 rfl ?_ | refine ld H rfl sc22 (by assumption) rfl ?_
    refine gy rfl ?_
    refine lnS rfl Tryd.underlying22 rfl ?_
    refine gy rfl ?_
    refine neq rfl rfl rfl ?_
    refine pkF (v := .bool _) rfl rfl rfl ?_
    refine nl ?_
    refine then_n ?_
    first | refine cd rfl (fun hc1 => ?_) (fun hc1 => ?_) | refine cn rfl (fun hc1 => ?_) (fun hc1 => ?_)   -- test 1
    · refine sq ?_
      refine rg ?_
      refine asg (v := .bool _) rfl rfl ?_
      refine nl ?_
      refine then_n ?_
      refine rt ?_
      refine then_r ?_
      refine fin_r ?_
      exact ⟨congrArg Value.bool (by unfold sameT; rw [decide_eq_false (p := ps.length = qs.length) (by omega)]; simp), H.fr⟩
    · refine sk ?_
      refine then_n ?_
      refine sq ?_
      refine sq ?_
      refine rg ?_
      refine fa rfl fo24_0 rfl ?_
      first | refine ld H rfl sc22 rfl rfl ?_ | refine lc rfl (by first | assumption | exact H.fr.cell (by assumption) (by simp)) sc22 rfl ?_ | refine ld H rfl sc22 (by assumption) rfl ?_
      refine lnS rfl Tryd.underlying22 rfl ?_
      refine mv (v := .int .i64 _) rfl rfl ?_
      refine nl ?_
      refine then_n ?_
      refine bk ?_
      refine lpM (α := Nat) [4, 5, 6, 25, 26, 27, 28, 29, 30, 31, 32, 33, 34, 35, 36, 37, 38] (fun i => [(25, .int .i64 (i : Int))]) (fun i w' => i ≤ m1 ∧ (∀ j p q, j < i → ps[j]? = some p → qs[j]? = some q → sameP p q = true) ∧ SH w [] w' [⟨b2, .cells (gtCells D2 m2 c2 512 g2 pr2 rc2).toArray 24 (0, 0), true⟩, ⟨b1, .cells (gtCells D1 m1 c1 512 g1 pr1 rc1).toArray 24 (0, 0), true⟩]) (fun i => m1 - i) 0 ?_ (fC (by first | rfl | exact congrArg (Value.int _) (by first | omega | assumption | (symm; assumption) | (simp; done) | (simp; omega)) | exact congrArg (fun n => Value.slice _ n _) (by first | omega | (simp; done) | (simp; omega))) (fN _)) ?_   -- loop 1
      · exact ⟨by omega, fun j p q hj => by omega, H⟩
      · rintro i ρx w4 ⟨hi, hs, H⟩
        refine sq ?_
        refine rg ?_
        refine lss rfl rfl rfl ?_
        refine nl ?_
        refine then_n ?_
        refine sq ?_
        first | refine cd rfl (fun hc2 => ?_) (fun hc2 => ?_) | refine cn rfl (fun hc2 => ?_) (fun hc2 => ?_)   -- test 2
        · obtain ⟨p, hpi⟩ : ∃ p, ps[i]? = some p := ⟨_, List.getElem?_eq_getElem (by omega)⟩
          obtain ⟨q, hqi⟩ : ∃ q, qs[i]? = some q := ⟨_, List.getElem?_eq_getElem (by omega)⟩
          obtain ⟨ad, rfl⟩ := h1.some_of (by omega)
          obtain ⟨ad2, rfl⟩ := h2.some_of (by omega)
          refine sk ?_
          refine then_n ?_
          refine sq ?_
          refine bk ?_
          refine sq ?_
          refine rg ?_
          refine mv (v := .int .i64 _) rfl rfl ?_
          refine iBN (ad.add (i * 8)) rfl rfl Tryd.underlying22 sz49_8 (by omega) (by simp) rfl ?_
          refine lw (vs := p.cells) rfl ag49_8 rfl (fun j v h => H.fr.cell (h1.elem hpi j v h) (by simp)) rfl ?_
          refine al H ze49 rfl ?_
          clear H; intro b3 w5 hb3 H _
          refine asg (v := .int .i64 _) rfl rfl ?_
          refine sa (cs' := p.cells) H rfl rfl ag49_8 rfl rfl (by decide) (by omega) rfl ?_
          clear H; intro w35 H _
          refine nl ?_
          refine then_n ?_
          refine sq ?_
          refine dr (by kernel_rfl) ?_   -- region 6
          have H := H.drew
          refine hold (fun _ => True) [] ?_
          refine tk (i := 1) rfl (by kernel_rfl) rfl trivial (fun _ _ => r_fa rfl fo24_0) ?_
          refine tk (i := 3) rfl (by kernel_rfl) rfl trivial (fun _ _ => r_mv (v := .int .i64 _) rfl) ?_
          refine unfree ?_
          refine holdH H [] ?_
          refine tk (i := 0) rfl (by kernel_rfl) rfl H (fun w' H => r_la (vs := p.cells) H rfl ag49_8 rfl rfl) ?_
          first | refine tk (i := 2) rfl (by kernel_rfl) rfl H (fun w' H => r_ld H rfl sc22 rfl) ?_ | refine tk (i := 2) rfl (by kernel_rfl) rfl H (fun w' H => r_lc rfl (by first | assumption | exact H.fr.cell (by assumption) (by simp)) sc22) ?_ | refine tk (i := 2) rfl (by kernel_rfl) rfl H (fun w' H => r_ld H rfl sc22 (by assumption)) ?_
          refine tk (i := 4) rfl (by kernel_rfl) rfl H (fun w' H => r_iBN (ad2.add (i * 8)) rfl rfl Tryd.underlying22 sz49_8 (by omega) (by simp)) ?_
          refine tk (i := 5) rfl (by kernel_rfl) rfl H (fun w' H => r_lw (vs := q.cells) rfl ag49_8 rfl (fun j v h => H.fr.cell (h2.elem hqi j v h) (by simp))) ?_
          refine fk (i := 6) (by kernel_rfl) rfl rfl rfl ?_
          refine cl ca32 (c_samePart _ p q) rfl ?_
          rintro _ w6 ⟨rfl, F⟩
          replace H := H.keep F; clear F
          refine nl ?_
          refine then_n ?_
          refine ⟨H, ?_⟩
          refine tk (i := 7) rfl (by kernel_rfl) rfl H (fun w' H => r_unot rfl) ?_
          refine da (by kernel_rfl) ?_
          refine then_n ?_
          first | refine cd rfl (fun hc3 => ?_) (fun hc3 => ?_) | refine cn rfl (fun hc3 => ?_) (fun hc3 => ?_)   -- test 3
          · refine sq ?_
            refine rg ?_
            refine asg (v := .bool _) rfl rfl ?_
            refine nl ?_
            refine then_n ?_
            refine rt ?_
            refine in_r ?_
            refine then_r ?_
            refine loop_r ?_
            refine in_r ?_
            refine then_r ?_
            refine fin_r ?_
            exact ⟨congrArg Value.bool (sameT_f hpi hqi (by simpa using hc3)).symm, H.fr⟩
          · refine sk ?_
            refine in_n ?_
            refine then_n ?_
            refine rg ?_
            refine add rfl rfl (by first | exact w_i64 (by omega) | exact w_i64 (rng_i64 _) | rfl) rfl ?_
            refine mv (v := .int .i64 _) rfl rfl ?_
            refine nl ?_
            refine loop_n ?_
            exact ⟨i + 1, (by (try dsimp only); omega), ⟨by omega, sameS_next hs hpi hqi (by simpa using hc3), H.sub (by repeat (first | exact List.Sublist.refl _ | exact List.nil_sublist _ | apply List.Sublist.cons_cons | apply List.Sublist.cons))⟩, (fC (by first | rfl | exact congrArg (Value.int _) (by first | omega | assumption | (symm; assumption) | (simp; done) | (simp; omega)) | exact congrArg (fun n => Value.slice _ n _) (by first | omega | (simp; done) | (simp; omega))) (fN _)), (by repeat (first | exact Agree.setL rfl Agree.mask | exact Agree.self _ _ | refine Agree.upd rfl ?_ | refine Agree.setL rfl ?_ | refine Agree.mask2 rfl ?_))⟩
        · refine ex ?_
          refine then_e ?_
          refine loop_e ?_
          refine in_hit rfl ?_
          refine then_n ?_
          refine sq ?_
          refine rg ?_
          refine asg (v := .bool _) rfl rfl ?_
          refine nl ?_
          refine then_n ?_
          refine rt ?_
          refine fin_r ?_
          obtain rfl : i = m1 := by omega
          exact ⟨congrArg Value.bool (sameT_t (by simpa using hg1) (by omega) (fun j p q hj => hs j p q (by omega))).symm, H.fr⟩

end Go.Proofs.YthcaejaaalkglaaDoor.X
