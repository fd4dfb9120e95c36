/- Laws and walks on the road to the statement: P18, P19, P20, P21, P22, GptTold, P23, P24, P25, P26, P27, GptLaw, GptLaw2, GptSmall, GptLaid, P28. -/
import Derived.Test.YthcaejaaalkglaaGreatDoorM5
/- Walks of functions, printed by a program of this claim. -/
namespace Go.Proofs.YthcaejaaalkglaaGreatDoor.X
set_option linter.unusedVariables false
set_option linter.unusedSimpArgs false
open Go Go.RowKit

namespace PF
theorem bo155 : buildOK Tryz.prog 155 = true := by kernel_rfl
theorem ca120 : callable Tryz.prog 120 = true := by kernel_rfl
theorem ca89 : callable Tryz.prog 89 = true := by kernel_rfl
theorem ca90 : callable Tryz.prog 90 = true := by kernel_rfl
theorem cc130 : Tryz.prog.concrete 130 = true := by kernel_rfl
theorem fo106_0 : fieldOff Tryz.prog 106 0 = some 0 := by kernel_rfl
theorem fo106_9 : fieldOff Tryz.prog 106 9 = some 9 := by kernel_rfl
theorem me67_ReadAt : ∀ (v : Value) (w : World), (method (Tryz.prog.types.size + Made.depth) 67 v "ReadAt").run Tryz.prog w = .ok (120, v) w := fun v w => by kernel_rfl
theorem pl155_0 : placeOf Tryz.prog 155 0 = some (0, 1) := by kernel_rfl
theorem sc104 : scalarB Tryz.prog 104 = true := by kernel_rfl
theorem ze155 : zeroL Tryz.prog 155 = some [.nilIface] := by kernel_rfl
end PF
open PF

set_option maxRecDepth 100000 in
set_option maxHeartbeats 1000000 in
theorem c_loadE (w : World) (p f : Nat) (bm bd L c : Nat) (ds : List UInt8) (hm : w.cell? ⟨bm, 0, none⟩ = some (.slice (some ⟨bd, 0, none⟩) L c)) (hd : RB w (some ⟨bd, 0, none⟩) L ds) (hL : 512 ≤ L ∧ L ≤ 1000000000) (hLc : L ≤ c) (g : List UInt8) (pr rb ini : Bool) (crc my oth fi la : Int) (hp : w.heap[p]? = some (.cells (tbC none 0 0 512 512 g pr rb 128 128 (f : Int) crc my oth fi la ini).toArray 106 (0, 0))) (hne : p ≠ bm ∧ p ≠ bd) (hf : 512 * f + 16384 ≤ L) : Calls Tryz.prog 80 #[.iface 67 (.pointer (some ⟨bm, 0, none⟩)), .pointer (some ⟨p, 0, none⟩), .int .i64 512, .int .i64 512] w (Ret fun v w' => Fr [p] w w' ∧ ∃ A e, v = .tuple #[.pointer A, e] ∧ Ifc e ∧ isIf e = !(decide (crc = crc32 (pcs ds (512 * f) 16384))) ∧ (crc ≠ crc32 (pcs ds (512 * f) 16384) → ∃ x, e = .iface 130 (.pointer x)) ∧ (crc = crc32 (pcs ds (512 * f) 16384) → A = some ⟨p, 0, none⟩ ∧ ∃ D cap l, l.map Prod.snd = usedC ((pcs ds (512 * f) 16384)) 128 ∧ l.length ≤ 128 ∧ OR 123 1 w [p] w' (⟨p, .cells (tbC D l.length cap 512 512 g pr rb 128 128 (f : Int) crc my oth fi la ini).toArray 106 (0, 0), true⟩ :: ents 126 l) D l.length cap (ptrs l))) := by
 refine enter (fun ρ => .tuple #[ρ 8, ρ 9]) Tryz.func80 rfl rfl rfl (res2 rfl) ?_
 have H := SH.rw1 hp
 have hbm := cell_lt0 hm
 have hbd := hd.lt (by omega)
 have hdl := hd.1
 have hal : (pcs ds (512 * f) 16384).length = 16384 := pcs_len (by omega)
 refine sq ?_
 refine rg ?_
 refine asg (v := .pointer _) rfl rfl ?_
 refine asg (v := .nilIface) rfl rfl ?_
 refine nl ?_
 refine then_n ?_
 refine sq ?_
 refine rg ?_
 refine mv (v := .pointer _) rfl rfl ?_
 refine cl ca89 (c_calcLoc _ p (f : Int) 512 128 128 (cell_at (H.look (b := p))) (cell_at (H.look (b := p))) (cell_at (H.look (b := p))) (cell_at (H.look (b := p))) (by omega) (by decide) ((512 * f : Nat) : Int) 16384 (by omega) rfl (by omega) (by decide)) rfl ?_
 rintro _ w1 ⟨rfl, F⟩
 replace H := H.keep F; clear F
 refine mv (v := .tuple _) rfl rfl ?_
 refine xt rfl rfl rfl ?_
 refine xt rfl rfl rfl ?_
 refine asg (v := .int .i64 _) rfl rfl ?_
 refine asg (v := .int .i64 _) rfl rfl ?_
 refine nl ?_
 refine then_n ?_
 refine sq ?_
 refine rg ?_
 skip
 refine mv (v := .int .i64 _) rfl rfl ?_
 have hsz := H.size
 refine mkB H rfl rfl Tryz.underlying30 mi5 (by omega) (by omega) (by omega) (by omega) rfl ?_
 clear H; intro b1 w2 hb1 H _
 refine asg (v := .slice _ _ _) rfl rfl ?_
 refine nl ?_
 refine then_n ?_
 refine sq ?_
 refine rg ?_
 refine mv (v := .iface _ _) rfl rfl ?_
 refine mv (v := .slice _ _ _) rfl rfl ?_
 refine mv (v := .int .i64 _) rfl rfl ?_
 refine mc rfl me67_ReadAt ca120 (c_readAt _ bm bd b1 L c (512 * f) 0 16384 16384 _ ds (List.replicate 16384 0) (H.fr.cell hm (by simpa using Ne.symm hne.1)) (hd.now H.fr (by simpa using Ne.symm hne.2)) (H.look (b := b1)) ⟨fun h => by simp at hbm; omega, fun h => by omega⟩ (by omega) (by omega) (by decide) (by rw [List.length_replicate]; decide) (by omega)) rfl ?_
 rintro _ w3 ⟨rfl, F, hnew⟩
 replace H := H.put (b := b1) F hnew; clear F hnew
 replace H := sh_cells0 H (congrArg Bs (pAt_all (by rw [hal, List.length_replicate])))
 refine mv (v := .tuple _) rfl rfl ?_
 refine xt rfl rfl rfl ?_
 refine xt rfl rfl rfl ?_
 refine asg (v := .int .i64 _) rfl rfl ?_
 refine asg (v := .nilIface) rfl rfl ?_
 refine nl ?_
 refine then_n ?_
 refine sq ?_
 refine sq ?_
 refine rg ?_
 refine mv (v := .nilIface) rfl rfl ?_
 refine neqI0 rfl Tryz.underlying73 rfl ?_
 refine nl ?_
 refine then_n ?_
 refine cbF rfl rfl ?_
 refine sk ?_
 refine then_n ?_
 refine sq ?_
 refine sq ?_
 refine rg ?_
 refine mv (v := .int .i64 _) rfl rfl ?_
 refine mv (v := .slice _ _ _) rfl rfl ?_
 refine lnS rfl Tryz.underlying30 rfl ?_
 refine neq rfl rfl rfl ?_
 refine nl ?_
 refine then_n ?_
 refine cF rfl (by omega) ?_
 refine sk ?_
 refine then_n ?_
 refine sq ?_
 refine rg ?_
 refine mv (v := .slice _ _ _) rfl rfl ?_
 refine cl ca75 (c_zzCrc _ _ _ _ (pcs ds (512 * f) 16384) (RB.allm (b := b1) H hal) (by decide)) rfl ?_
 rintro _ w4 ⟨rfl, F⟩
 replace H := H.keep F; clear F
 refine asg (v := .int .u32 _) rfl rfl ?_
 refine nl ?_
 refine then_n ?_
 refine sq ?_
 refine sq ?_
 refine rg ?_
 refine mv (v := .pointer _) rfl rfl ?_
 refine nc rfl rfl ?_
 refine fa rfl fo106_9 rfl ?_
 refine ld H rfl sc58 rfl rfl ?_
 refine mv (v := .int .u32 _) rfl rfl ?_
 refine neq rfl rfl rfl ?_
 refine nl ?_
 refine then_n ?_
 refine cd rfl (fun hc3 => ?_) (fun hc3 => ?_)
 ·refine sq ?_
  refine rg ?_
  refine cl ca50 (c_errNew _ _) rfl ?_
  rintro _ w5 ⟨⟨be2, rfl⟩, F⟩
  replace H := H.keep F; clear F
  refine bu (out := ?o1) ze155 bo155 ?f1 rfl ?_
  case f1 =>
   refine FL.one (v := .iface _ _) rfl pl155_0 rfl (by decide) ?_
   exact FL.nil
  refine bx (v := .agg _) H rfl rfl rfl ?_
  clear H; intro b3 w6 hb3 H _
  refine mi (v := .pointer _) rfl cc130 rfl ?_
  refine asg (v := .pointer _) rfl rfl ?_
  refine asg (v := .iface _ _) rfl rfl ?_
  refine nl ?_
  refine then_n ?_
  refine rt ?_
  refine then_r ?_
  refine fin_r ?_
  exact ⟨H.fr, _, _, rfl, .inr ⟨_, _, rfl⟩, by rw [decide_eq_false hc3]; rfl, fun _ => ⟨_, rfl⟩, fun h => absurd h hc3⟩
 ·refine sk ?_
  refine then_n ?_
  refine sq ?_
  refine rg ?_
  refine mv (v := .slice _ _ _) rfl rfl ?_
  refine mv (v := .pointer _) rfl rfl ?_
  refine nc rfl rfl ?_
  refine fa rfl fo106_7 rfl ?_
  refine ld H rfl sc58 rfl rfl ?_
  refine cvi rfl rfl Tryz.underlying3 (by first | exact w_i64 (by omega) | exact w_i64 (rng_i64 _) | rfl) rfl ?_
  refine mv (v := .int .i64 _) rfl rfl ?_
  refine mv (v := .int .i64 _) rfl rfl ?_
  refine cl ca90 (c_readArr _ b1 16384 16384 128 (pcs ds (512 * f) 16384) (RB.allm (b := b1) H hal) (by decide) (by decide) (by decide)) rfl ?_
  rintro _ w7 ⟨D9, cap9, l9, rfl, hl9, hll9, O⟩
  replace O := O.joinN H ents_m
  simp only [List.cons_append, List.nil_append] at O
  have H := O.sh
  refine mv (v := .tuple _) rfl rfl ?_
  refine xt rfl rfl rfl ?_
  refine xt rfl rfl rfl ?_
  refine asg (v := .slice _ _ _) rfl rfl ?_
  refine asg (v := .nilIface) rfl rfl ?_
  refine nl ?_
  refine then_n ?_
  refine sq ?_
  refine sq ?_
  refine rg ?_
  refine mv (v := .nilIface) rfl rfl ?_
  refine neqI0 rfl Tryz.underlying73 rfl ?_
  refine nl ?_
  refine then_n ?_
  refine cbF rfl rfl ?_
  refine sk ?_
  refine then_n ?_
  refine sq ?_
  refine rg ?_
  refine mv (v := .pointer _) rfl rfl ?_
  refine mv (v := .slice _ _ _) rfl rfl ?_
  refine nc rfl rfl ?_
  refine fa rfl fo106_0 rfl ?_
  refine st (v := .slice _ _ _) H rfl rfl sc104 rfl (by show 0 + 0 < 15; decide) (by omega) ?_
  intro w95 H1 F; replace O := O.put F H1.look; clear H H1 F; have H := O.sh
  refine nl ?_
  refine then_n ?_
  refine sq ?_
  refine rg ?_
  refine mv (v := .pointer _) rfl rfl ?_
  refine asg (v := .pointer _) rfl rfl ?_
  refine asg (v := .nilIface) rfl rfl ?_
  refine nl ?_
  refine then_n ?_
  refine rt ?_
  refine fin_r ?_
  have hcc : crc = crc32 (pcs ds (512 * f) 16384) := Classical.not_not.1 hc3
  exact ⟨H.fr, _, _, rfl, .inl rfl, by rw [decide_eq_true hcc]; rfl, fun h => absurd hcc h, fun _ => ⟨rfl, D9, cap9, l9, hl9, hll9, O.sub (List.Sublist.cons _ (List.Sublist.refl _))⟩⟩

end Go.Proofs.YthcaejaaalkglaaGreatDoor.X

/- Walks of functions, printed by a program of this claim. -/
namespace Go.Proofs.YthcaejaaalkglaaGreatDoor.X
set_option linter.unusedVariables false
set_option linter.unusedSimpArgs false
open Go Go.RowKit

namespace PF
theorem ca79 : callable Tryz.prog 79 = true := by kernel_rfl
theorem ca80 : callable Tryz.prog 80 = true := by kernel_rfl
end PF
open PF

set_option maxRecDepth 100000 in
set_option maxHeartbeats 1000000 in
theorem c_readPrim (w : World) (bm bd L c : Nat) (ds : List UInt8) (hm : w.cell? ⟨bm, 0, none⟩ = some (.slice (some ⟨bd, 0, none⟩) L c)) (hd : RB w (some ⟨bd, 0, none⟩) L ds) (hL : 512 ≤ L ∧ L ≤ 1000000000) (hLc : L ≤ c) (hL2 : 17408 ≤ L) (hcan : hdrGood ds 512 = true → fld ds 584 8 = 2 ∧ fld ds 592 4 = 128 ∧ fld ds 596 4 = 128) : Calls Tryz.prog 62 #[.iface 67 (.pointer (some ⟨bm, 0, none⟩)), .int .i64 512, .int .i64 512] w (Ret fun v w' => Fr [] w w' ∧ ∃ A e, v = .tuple #[.pointer A, e] ∧ Ifc e ∧ isIf e = !((hdrGood ds 512 && decide (fld ds 600 4 = crc32 (pcs ds 1024 16384)))) ∧ ((hdrGood ds 512 && decide (fld ds 600 4 = crc32 (pcs ds 1024 16384))) = false → ∃ x, e = .iface 130 (.pointer x)) ∧ ((hdrGood ds 512 && decide (fld ds 600 4 = crc32 (pcs ds 1024 16384))) = true → ∃ p, A = some ⟨p, 0, none⟩ ∧ ∃ D cap l, l.map Prod.snd = usedC (pcs ds 1024 16384) 128 ∧ l.length ≤ 128 ∧ OR 123 1 w [] w' (⟨p, .cells (tbC D l.length cap 512 512 (gT (pcs ds 568 16)) (protB (pcs ds 0 512) (fld ds 544 8 % 4294967296)) false 128 128 2 (fld ds (600) 4) (fld ds (536) 8) (fld ds (544) 8) (fld ds (552) 8) (fld ds (560) 8) true).toArray 106 (0, 0), true⟩ :: ents 126 l) D l.length cap (ptrs l))) := by
 refine enter (fun ρ => .tuple #[ρ 6, ρ 7]) Tryz.func62 rfl rfl rfl (res2 rfl) ?_
 have H := SH.nil w
 have hbm := cell_lt0 hm
 have hbd := hd.lt (by omega)
 have hdl := hd.1
 have hbl : (pcs ds 0 1024).length = 1024 := pcs_len (by omega)
 refine sq ?_
 refine rg ?_
 refine asg (v := .pointer _) rfl rfl ?_
 refine asg (v := .nilIface) rfl rfl ?_
 refine nl ?_
 refine then_n ?_
 refine sq ?_
 refine rg ?_
 refine mv (v := .int .i64 _) rfl rfl ?_
 refine mul (c := 1024) rfl rfl rfl rfl ?_
 have hsz := H.size
 refine mkB H rfl rfl Tryz.underlying30 mi5 (by omega) (by omega) (by omega) (by omega) rfl ?_
 clear H; intro b1 w1 hb1 H _
 refine asg (v := .slice _ _ _) rfl rfl ?_
 refine nl ?_
 refine then_n ?_
 refine sq ?_
 refine rg ?_
 refine mv (v := .iface _ _) rfl rfl ?_
 refine mv (v := .slice _ _ _) rfl rfl ?_
 refine mc rfl me67_ReadAt ca120 (c_readAt _ bm bd b1 L c 0 0 1024 1024 _ ds (List.replicate 1024 0) (H.fr.cell hm (by simp)) (hd.keep H.fr) (H.look (b := b1)) ⟨fun h => by simp at hbm; omega, fun h => by omega⟩ (by omega) (by omega) (by decide) (by rw [List.length_replicate]; decide) (by omega)) rfl ?_
 rintro _ w2 ⟨rfl, F, hnew⟩
 replace H := H.put (b := b1) F hnew; clear F hnew
 replace H := sh_cells0 H (congrArg Bs (pAt_all (by rw [hbl, List.length_replicate])))
 refine mv (v := .tuple _) rfl rfl ?_
 refine xt rfl rfl rfl ?_
 refine xt rfl rfl rfl ?_
 refine asg (v := .int .i64 _) rfl rfl ?_
 refine asg (v := .nilIface) rfl rfl ?_
 refine nl ?_
 refine then_n ?_
 refine sq ?_
 refine sq ?_
 refine rg ?_
 refine mv (v := .nilIface) rfl rfl ?_
 refine neqI0 rfl Tryz.underlying73 rfl ?_
 refine nl ?_
 refine then_n ?_
 refine cbF rfl rfl ?_
 refine sk ?_
 refine then_n ?_
 refine sq ?_
 refine sq ?_
 refine rg ?_
 refine mv (v := .int .i64 _) rfl rfl ?_
 refine mv (v := .slice _ _ _) rfl rfl ?_
 refine lnS rfl Tryz.underlying30 rfl ?_
 refine neq rfl rfl rfl ?_
 refine nl ?_
 refine then_n ?_
 refine cbF rfl rfl ?_
 refine sk ?_
 refine then_n ?_
 refine sq ?_
 refine rg ?_
 refine mv (v := .slice _ _ _) rfl rfl ?_
 refine mv (v := .int .i64 _) rfl rfl ?_
 refine mv (v := .int .i64 _) rfl rfl ?_
 refine cl ca79 (c_tabFrom _ b1 1024 1024 _ (pcs ds 0 1024) (H.look (b := b1)) (by decide) (by decide) (by omega) (by omega)) rfl ?_
 rintro _ w3 ⟨F, hnew, A9, e9, rfl, hie, hif, hok⟩
 obtain ⟨H9, hlt⟩ := H.put2 F hnew
 clear H F hnew; have H := H9; clear H9
 refine mv (v := .tuple _) rfl rfl ?_
 refine xt rfl rfl rfl ?_
 refine xt rfl rfl rfl ?_
 refine asg (v := .pointer _) rfl rfl ?_
 refine asg rfl rfl ?_
 refine nl ?_
 refine then_n ?_
 refine sq ?_
 refine sq ?_
 refine rg ?_
 refine mv rfl rfl ?_
 refine neqIG rfl Tryz.underlying73 (by assumption) rfl ?_
 refine nl ?_
 refine then_n ?_
 refine cn rfl (fun hc3 => ?_) (fun hc3 => ?_)
 ·have hgd : hdrGood ds 512 = false := by have h9 := hif.symm.trans hc3; rw [hdr0] at h9; simpa using h9
  refine sq ?_
  refine rg ?_
  refine cl ca50 (c_errNew _ _) rfl ?_
  rintro _ w4 ⟨⟨be2, rfl⟩, F⟩
  replace H := H.keep F; clear F
  refine bu (out := ?o1) ze155 bo155 ?f1 rfl ?_
  case f1 =>
   refine FL.one (v := .iface _ _) rfl pl155_0 rfl (by decide) ?_
   exact FL.nil
  refine bx (v := .agg _) H rfl rfl rfl ?_
  clear H; intro b3 w5 hb3 H _
  refine mi (v := .pointer _) rfl cc130 rfl ?_
  refine asg (v := .pointer _) rfl rfl ?_
  refine asg (v := .iface _ _) rfl rfl ?_
  refine nl ?_
  refine then_n ?_
  refine rt ?_
  refine then_r ?_
  refine fin_r ?_
  exact ⟨H.fr, _, _, rfl, .inr ⟨_, _, rfl⟩, by rw [hgd]; rfl, fun _ => ⟨_, rfl⟩, fun h => by rw [hgd] at h; cases h⟩
 ·have hgd : hdrGood ds 512 = true := by have h9 := hif.symm.trans hc3; rw [hdr0] at h9; simpa using h9
  obtain ⟨p, rfl, hp1, hp2⟩ := hok (by rw [hdr0]; exact hgd)
  obtain ⟨k1, k2, k3⟩ := hcan hgd
  simp only [pcs0 (show 568 + 16 ≤ 1024 by decide), pcs0 (show 0 + 512 ≤ 1024 by decide), fld0 (show 544 + 8 ≤ 1024 by decide), fld0 (show 592 + 4 ≤ 1024 by decide), fld0 (show 596 + 4 ≤ 1024 by decide), fld0 (show 584 + 8 ≤ 1024 by decide), fld0 (show 600 + 4 ≤ 1024 by decide), fld0 (show 536 + 8 ≤ 1024 by decide), fld0 (show 552 + 8 ≤ 1024 by decide), fld0 (show 560 + 8 ≤ 1024 by decide), k1, k2, k3] at hp2
  replace H := H.add hlt hp1 hp2; clear hp2
  refine sk ?_
  refine then_n ?_
  refine sq ?_
  refine rg ?_
  refine mv (v := .iface _ _) rfl rfl ?_
  refine mv (v := .pointer _) rfl rfl ?_
  refine mv (v := .int .i64 _) rfl rfl ?_
  refine mv (v := .int .i64 _) rfl rfl ?_
  refine cl ca80 (c_loadE _ p 2 bm bd L c ds (H.fr.cell hm (by simp)) (hd.keep H.fr) hL hLc _ _ _ _ _ _ _ _ _ (H.look (b := p)) ⟨fun h => by simp at hbm; have := hlt.2; omega, fun h => by have := hlt.2; omega⟩ (by omega)) rfl ?_
  rintro _ w6 ⟨F, A10, e10, rfl, hie2, hif2, hce, hok2⟩
  refine xt rfl rfl rfl ?_
  refine xt rfl rfl rfl ?_
  refine asg (v := .pointer _) rfl rfl ?_
  refine asg rfl rfl ?_
  refine nl ?_
  refine then_n ?_
  refine rt ?_
  refine fin_r ?_
  have hge : w.heap.size ≤ p := Nat.le_trans hlt.2 hp1
  refine ⟨H.fr.then F (by simpa using hge), A10, e10, rfl, hie2, ?_, ?_, ?_⟩
  ·rw [hgd, Bool.true_and]; exact hif2
  ·rw [hgd, Bool.true_and]; exact fun h => hce (of_decide_eq_false h)
  ·rw [hgd, Bool.true_and]
   intro h
   obtain ⟨rfl, D, cap, l, h1, h2, O⟩ := hok2 (of_decide_eq_true h)
   exact ⟨p, rfl, D, cap, l, h1, h2, O.under H.fr hge⟩

end Go.Proofs.YthcaejaaalkglaaGreatDoor.X

/- Walks of functions, printed by a program of this claim. -/
namespace Go.Proofs.YthcaejaaalkglaaGreatDoor.X
set_option linter.unusedVariables false
set_option linter.unusedSimpArgs false
open Go Go.RowKit

namespace PF
theorem ca121 : callable Tryz.prog 121 = true := by kernel_rfl
theorem fo106_10 : fieldOff Tryz.prog 106 10 = some 10 := by kernel_rfl
theorem fo76_1 : fieldOff Tryz.prog 76 1 = some 1 := by kernel_rfl
theorem me67_Seek : ∀ (v : Value) (w : World), (method (Tryz.prog.types.size + Made.depth) 67 v "Seek").run Tryz.prog w = .ok (121, v) w := fun v w => by kernel_rfl
theorem sc2 : scalarB Tryz.prog 2 = true := by kernel_rfl
end PF
open PF

set_option maxRecDepth 100000 in
set_option maxHeartbeats 1000000 in
theorem c_seek (w : World) (bm bd L c : Nat) (x1 x2 x3 : Value) (hb : w.heap[bm]? = some (.cells [.slice (some ⟨bd, 0, none⟩) L c, x1, x2, x3].toArray 76 (0, 0))) (hL : L ≤ 1000000000) : Calls Tryz.prog 121 #[.pointer (some ⟨bm, 0, none⟩), .int .i64 0, .int .i64 2] w (Ret fun v w' => v = .tuple #[.int .i64 (L : Int), .nilIface] ∧ Fr [bm] w w' ∧ w'.heap[bm]? = some (.cells [.slice (some ⟨bd, 0, none⟩) L c, .int .i64 (L : Int), x2, x3].toArray 76 (0, 0))) := by
 refine enter (fun ρ => .tuple #[ρ 6, ρ 7]) Tryz.func121 rfl rfl rfl (res2 rfl) ?_
 have H := SH.rw1 hb
 refine sq ?_
 refine rg ?_
 refine asg (v := .int .i64 _) rfl rfl ?_
 refine asg (v := .nilIface) rfl rfl ?_
 refine nl ?_
 refine then_n ?_
 refine sq ?_
 refine sq ?_
 refine rg ?_
 refine mv (v := .int .i64 _) rfl rfl ?_
 refine nl ?_
 refine then_n ?_
 refine bk ?_
 refine sq ?_
 refine rg ?_
 refine eql rfl rfl rfl ?_
 refine asg (v := .bool _) rfl rfl ?_
 refine nl ?_
 refine then_n ?_
 refine cF rfl (by decide) ?_
 refine sq ?_
 refine rg ?_
 refine eql rfl rfl rfl ?_
 refine asg (v := .bool _) rfl rfl ?_
 refine nl ?_
 refine then_n ?_
 refine cT rfl (by decide) ?_
 refine rg ?_
 refine mv (v := .int .i64 _) rfl rfl ?_
 refine mv (v := .pointer _) rfl rfl ?_
 refine nc rfl rfl ?_
 refine fa rfl fo76_0 rfl ?_
 refine ld H rfl sc30 rfl rfl ?_
 refine lnS rfl Tryz.underlying30 rfl ?_
 refine add rfl rfl (by first | exact w_i64 (by omega) | exact w_i64 (rng_i64 _) | rfl) rfl ?_
 refine asg (v := .int .i64 _) rfl rfl ?_
 refine nl ?_
 refine in_n ?_
 refine then_n ?_
 refine sq ?_
 refine sq ?_
 refine rg ?_
 refine mv (v := .int .i64 _) rfl rfl ?_
 refine lss rfl rfl rfl ?_
 refine nl ?_
 refine then_n ?_
 refine cF rfl (by omega) ?_
 refine sk ?_
 refine then_n ?_
 refine sq ?_
 refine rg ?_
 refine mv (v := .pointer _) rfl rfl ?_
 refine mv (v := .int .i64 _) rfl rfl ?_
 refine nc rfl rfl ?_
 refine fa rfl fo76_1 rfl ?_
 refine st (v := .int .i64 _) H rfl rfl sc2 rfl (by first | decide | (simp only [List.length_set, List.length_cons, List.length_nil, List.length_replicate, List.length_append, Bs_length]; omega) | omega) (by omega) ?_
 clear H; intro w1 H _
 refine nl ?_
 refine then_n ?_
 refine sq ?_
 refine rg ?_
 refine mv (v := .int .i64 _) rfl rfl ?_
 refine asg (v := .int .i64 _) rfl rfl ?_
 refine asg (v := .nilIface) rfl rfl ?_
 refine nl ?_
 refine then_n ?_
 refine rt ?_
 refine fin_r ?_
 refine ⟨?_, H.fr, ?_⟩
 ·exact congrArg (fun z => Value.tuple #[.int .i64 z, .nilIface]) (by omega)
 ·exact H.look.trans (congrArg (fun z => some (Obj.cells [.slice (some ⟨bd, 0, none⟩) L c, .int .i64 z, x2, x3].toArray 76 (0, 0))) (by omega))

set_option maxRecDepth 100000 in
set_option maxHeartbeats 1000000 in
theorem c_seekSize (w : World) (bm bd L c : Nat) (x1 x2 x3 : Value) (hb : w.heap[bm]? = some (.cells [.slice (some ⟨bd, 0, none⟩) L c, x1, x2, x3].toArray 76 (0, 0))) (hL : L ≤ 1000000000) : Calls Tryz.prog 63 #[.iface 67 (.pointer (some ⟨bm, 0, none⟩))] w (Ret fun v w' => v = .tuple #[.int .i64 (L : Int), .nilIface] ∧ Fr [bm] w w' ∧ w'.heap[bm]? = some (.cells [.slice (some ⟨bd, 0, none⟩) L c, .int .i64 (L : Int), x2, x3].toArray 76 (0, 0))) := by
 refine enter (fun ρ => .tuple #[ρ 2, ρ 3]) Tryz.func63 rfl rfl rfl (res2 rfl) ?_
 have H := SH.rw1 hb
 refine sq ?_
 refine rg ?_
 refine asg (v := .int .i64 _) rfl rfl ?_
 refine asg (v := .nilIface) rfl rfl ?_
 refine nl ?_
 refine then_n ?_
 refine sq ?_
 refine rg ?_
 refine mv (v := .iface _ _) rfl rfl ?_
 refine mc rfl me67_Seek ca121 (c_seek _ bm bd L c x1 x2 x3 (H.look (b := bm)) hL) rfl ?_
 rintro _ w1 ⟨rfl, F, hnew⟩
 replace H := H.put (b := bm) F hnew; clear F hnew
 refine xt rfl rfl rfl ?_
 refine xt rfl rfl rfl ?_
 refine asg (v := .int .i64 _) rfl rfl ?_
 refine asg (v := .nilIface) rfl rfl ?_
 refine nl ?_
 refine then_n ?_
 refine rt ?_
 refine fin_r ?_
 exact ⟨rfl, H.fr, H.look⟩

set_option maxRecDepth 100000 in
set_option maxHeartbeats 1000000 in
theorem c_readBack (w : World) (b f : Nat) (bm bd L c : Nat) (ds : List UInt8) (hm : w.cell? ⟨bm, 0, none⟩ = some (.slice (some ⟨bd, 0, none⟩) L c)) (hd : RB w (some ⟨bd, 0, none⟩) L ds) (hL : 512 ≤ L ∧ L ≤ 1000000000) (hLc : L ≤ c) (hb : 512 * b + 512 ≤ L) (hf : 512 * f + 16384 ≤ L) (hcan : hdrGood ds (512 * b) = true → fld ds (512 * b + 72) 8 = (f : Int) ∧ fld ds (512 * b + 80) 4 = 128 ∧ fld ds (512 * b + 84) 4 = 128) : Calls Tryz.prog 64 #[.iface 67 (.pointer (some ⟨bm, 0, none⟩)), .int .i64 512, .int .i64 512, .int .u64 (b : Int)] w (Ret fun v w' => Fr [] w w' ∧ ∃ A e, v = .tuple #[.pointer A, e] ∧ Ifc e ∧ isIf e = !((hdrGood ds (512 * b) && decide (fld ds (512 * b + 24) 8 = (b : Int)) && decide (fld ds (512 * b + 88) 4 = crc32 (pcs ds (512 * f) 16384)))) ∧ ((hdrGood ds (512 * b) && decide (fld ds (512 * b + 24) 8 = (b : Int)) && decide (fld ds (512 * b + 88) 4 = crc32 (pcs ds (512 * f) 16384))) = true → ∃ p, A = some ⟨p, 0, none⟩ ∧ ∃ D cap l, l.map Prod.snd = usedC (pcs ds (512 * f) 16384) 128 ∧ l.length ≤ 128 ∧ OR 123 1 w [] w' (⟨p, .cells (tbC D l.length cap 512 512 (gT (pcs ds (512 * b + 56) 16)) (protB (pcs ds 0 512) ((fld ds (512 * b + 24) 8) % 4294967296)) false 128 128 f (fld ds (512 * b + 88) 4) (fld ds (512 * b + 32) 8) (fld ds (512 * b + 24) 8) (fld ds (512 * b + 40) 8) (fld ds (512 * b + 48) 8) true).toArray 106 (0, 0), true⟩ :: ents 126 l) D l.length cap (ptrs l))) := by
 refine enter (fun ρ => .tuple #[ρ 8, ρ 9]) Tryz.func64 rfl rfl rfl (res2 rfl) ?_
 have H := SH.nil w
 have hbm := cell_lt0 hm
 have hbd := hd.lt (by omega)
 have hdl := hd.1
 have hbl : (pcs ds (512 * b) 512).length = 512 := pcs_len (by omega)
 have hbl0 : (pcs ds 0 512).length = 512 := pcs_len (by omega)
 refine sq ?_
 refine rg ?_
 refine asg (v := .pointer _) rfl rfl ?_
 refine asg (v := .nilIface) rfl rfl ?_
 refine nl ?_
 refine then_n ?_
 refine sq ?_
 refine rg ?_
 refine mv (v := .int .i64 _) rfl rfl ?_
 refine mkB H rfl rfl Tryz.underlying30 mi5 (by omega) (by omega) (by omega) (by omega) rfl ?_
 clear H; intro b1 w1 hb1 H _
 have hsz := H.size
 refine asg (v := .slice _ _ _) rfl rfl ?_
 refine nl ?_
 refine then_n ?_
 refine sq ?_
 refine rg ?_
 refine mv (v := .int .u64 _) rfl rfl ?_
 refine cvi rfl rfl Tryz.underlying2 (by first | exact w_i64 (by omega) | exact w_i64 (rng_i64 _) | rfl) rfl ?_
 refine mv (v := .int .i64 _) rfl rfl ?_
 refine mul (c := ((512 * b : Nat) : Int)) rfl rfl (by rw [w_i64 (by omega)]; omega) rfl ?_
 refine asg (v := .int .i64 _) rfl rfl ?_
 refine nl ?_
 refine then_n ?_
 refine sq ?_
 refine rg ?_
 refine mv (v := .iface _ _) rfl rfl ?_
 refine mv (v := .slice _ _ _) rfl rfl ?_
 refine mv (v := .int .i64 _) rfl rfl ?_
 refine mc rfl me67_ReadAt ca120 (c_readAt _ bm bd b1 L c (512 * b) 0 512 512 _ ds (List.replicate 512 0) (H.fr.cell hm (by simp)) (hd.keep H.fr) (H.look (b := b1)) ⟨fun h => by simp at hbm; omega, fun h => by omega⟩ (by omega) (by omega) (by decide) (by rw [List.length_replicate]; decide) (by omega)) rfl ?_
 rintro _ w2 ⟨rfl, F, hnew⟩
 replace H := H.put (b := b1) F hnew; clear F hnew
 replace H := sh_cells0 H (congrArg Bs (pAt_all (by rw [hbl, List.length_replicate])))
 refine mv (v := .tuple _) rfl rfl ?_
 refine xt rfl rfl rfl ?_
 refine xt rfl rfl rfl ?_
 refine asg (v := .int .i64 _) rfl rfl ?_
 refine asg (v := .nilIface) rfl rfl ?_
 refine nl ?_
 refine then_n ?_
 refine sq ?_
 refine sq ?_
 refine rg ?_
 refine mv (v := .nilIface) rfl rfl ?_
 refine neqI0 rfl Tryz.underlying73 rfl ?_
 refine nl ?_
 refine then_n ?_
 refine cbF rfl rfl ?_
 refine sk ?_
 refine then_n ?_
 refine sq ?_
 refine sq ?_
 refine rg ?_
 refine mv (v := .int .i64 _) rfl rfl ?_
 refine mv (v := .slice _ _ _) rfl rfl ?_
 refine lnS rfl Tryz.underlying30 rfl ?_
 refine neq rfl rfl rfl ?_
 refine nl ?_
 refine then_n ?_
 refine cbF rfl rfl ?_
 refine sk ?_
 refine then_n ?_
 refine sq ?_
 refine rg ?_
 refine mv (v := .slice _ _ _) rfl rfl ?_
 refine cl ca81 (c_readHdr _ b1 0 512 512 _ (pcs ds (512 * b) 512) (H.look (b := b1)) (by decide) (by decide) (by omega) (by omega)) rfl ?_
 rintro _ w3 ⟨F, hnew, hres⟩
 obtain ⟨A9, e9, rfl, hie, hif, hok⟩ := two_res hres
 obtain ⟨H9, hlt⟩ := H.put2 F hnew
 clear H hres F hnew; have H := H9; clear H9
 refine mv (v := .tuple _) rfl rfl ?_
 refine xt rfl rfl rfl ?_
 refine xt rfl rfl rfl ?_
 refine asg (v := .pointer _) rfl rfl ?_
 refine asg rfl rfl ?_
 refine nl ?_
 refine then_n ?_
 refine sq ?_
 refine sq ?_
 refine rg ?_
 refine mv rfl rfl ?_
 refine neqIG rfl Tryz.underlying73 (by assumption) rfl ?_
 refine nl ?_
 refine then_n ?_
 refine cn rfl (fun hc3 => ?_) (fun hc3 => ?_)
 ·have hgd : hdrGood ds (512 * b) = false := by have h9 := hif.symm.trans hc3; rw [hdrA] at h9; simpa using h9
  refine sq ?_
  refine rg ?_
  refine cl ca50 (c_errNew _ _) rfl ?_
  rintro _ w4 ⟨⟨be2, rfl⟩, F⟩
  replace H := H.keep F; clear F
  refine asg (v := .pointer _) rfl rfl ?_
  refine asg (v := .iface _ _) rfl rfl ?_
  refine nl ?_
  refine then_n ?_
  refine rt ?_
  refine then_r ?_
  refine fin_r ?_
  exact ⟨H.fr, _, _, rfl, .inr ⟨_, _, rfl⟩, by rw [hgd]; rfl, fun h => by rw [hgd] at h; cases h⟩
 ·have hgd : hdrGood ds (512 * b) = true := by have h9 := hif.symm.trans hc3; rw [hdrA] at h9; simpa using h9
  obtain ⟨p, rfl, hp1, hp2⟩ := hok (by rw [hdrA]; exact hgd)
  obtain ⟨k1, k2, k3⟩ := hcan hgd
  simp only [Nat.zero_add, pcsA (show 56 + 16 ≤ 512 by decide), fldA (show 24 + 8 ≤ 512 by decide), fldA (show 32 + 8 ≤ 512 by decide), fldA (show 40 + 8 ≤ 512 by decide), fldA (show 48 + 8 ≤ 512 by decide), fldA (show 72 + 8 ≤ 512 by decide), fldA (show 80 + 4 ≤ 512 by decide), fldA (show 84 + 4 ≤ 512 by decide), fldA (show 88 + 4 ≤ 512 by decide), k1, k2, k3] at hp2
  replace H := H.add hlt hp1 hp2; clear hp2
  refine sk ?_
  refine then_n ?_
  refine sq ?_
  refine sq ?_
  refine rg ?_
  refine mv (v := .pointer _) rfl rfl ?_
  refine nc rfl rfl ?_
  refine fa rfl fo106_10 rfl ?_
  refine ld H rfl sc28 rfl rfl ?_
  refine mv (v := .int .u64 _) rfl rfl ?_
  refine neq rfl rfl rfl ?_
  refine nl ?_
  refine then_n ?_
  refine cd rfl (fun hc4 => ?_) (fun hc4 => ?_)
  ·refine sq ?_
   refine rg ?_
   refine cl ca50 (c_errNew _ _) rfl ?_
   rintro _ w5 ⟨⟨be3, rfl⟩, F⟩
   replace H := H.keep F; clear F
   refine asg (v := .pointer _) rfl rfl ?_
   refine asg (v := .iface _ _) rfl rfl ?_
   refine nl ?_
   refine then_n ?_
   refine rt ?_
   refine then_r ?_
   refine fin_r ?_
   have hq : (hdrGood ds (512 * b) && decide (fld ds (512 * b + 24) 8 = (b : Int)) && decide (fld ds (512 * b + 88) 4 = crc32 (pcs ds (512 * f) 16384))) = false := by rw [hgd, decide_eq_false hc4]; rfl
   exact ⟨H.fr, _, _, rfl, .inr ⟨_, _, rfl⟩, by rw [hq]; rfl, fun h => by rw [hq] at h; cases h⟩
  ·refine sk ?_
   refine then_n ?_
   refine sq ?_
   refine dr (by kernel_rfl) ?_
   have H := H.drew
   refine hold (fun _ => True) [] ?_
   refine tk (i := 0) rfl (by kernel_rfl) rfl trivial (fun _ _ => r_mv (v := .pointer _) rfl) ?_
   refine tk (i := 1) rfl (by kernel_rfl) rfl trivial (fun _ _ => r_mv (v := .pointer _) rfl) ?_
   refine tk (i := 2) rfl (by kernel_rfl) rfl trivial (fun _ _ => r_mv (v := .pointer _) rfl) ?_
   refine tk (i := 3) rfl (by kernel_rfl) rfl trivial (fun _ _ => r_nc rfl) ?_
   refine tk (i := 4) rfl (by kernel_rfl) rfl trivial (fun _ _ => r_fa rfl fo106_11) ?_
   refine tk (i := 6) rfl (by kernel_rfl) rfl trivial (fun _ _ => r_mv (v := .pointer _) rfl) ?_
   refine tk (i := 7) rfl (by kernel_rfl) rfl trivial (fun _ _ => r_nc rfl) ?_
   refine tk (i := 8) rfl (by kernel_rfl) rfl trivial (fun _ _ => r_fa rfl fo106_10) ?_
   refine unfree ?_
   refine holdH H [12, 15] ?_
   refine tk (i := 5) rfl (by kernel_rfl) rfl H (fun w' H => r_ld H rfl sc28 rfl) ?_
   refine tk (i := 9) rfl (by kernel_rfl) rfl H (fun w' H => r_ld H rfl sc28 rfl) ?_
   refine fk (i := 10) (by kernel_rfl) rfl rfl rfl ?_
   refine nc rfl rfl ?_
   refine nl ?_
   refine then_n ?_
   refine ⟨H, ?_⟩
   refine tk (i := 11) rfl (by kernel_rfl) rfl H (fun w' H => r_fa rfl fo106_10) ?_
   refine fb (i := 12) (by kernel_rfl) rfl rfl rfl ?_
   refine st (v := .int .u64 _) H rfl rfl sc28 rfl (by first | decide | (simp only [List.length_set, List.length_cons, List.length_nil, List.length_replicate, List.length_append, Bs_length]; omega) | omega) (by omega) ?_
   clear H; intro w6 H _
   refine nl ?_
   refine then_n ?_
   refine fo (i := 13) (by kernel_rfl) rfl rfl ?_
   refine nc rfl rfl ?_
   refine nl ?_
   refine then_n ?_
   refine holdH H [15] ?_
   refine tk (i := 14) rfl (by kernel_rfl) rfl H (fun w' H => r_fa rfl fo106_11) ?_
   refine fb (i := 15) (by kernel_rfl) rfl rfl rfl ?_
   refine st (v := .int .u64 _) H rfl rfl sc28 rfl (by first | decide | (simp only [List.length_set, List.length_cons, List.length_nil, List.length_replicate, List.length_append, Bs_length]; omega) | omega) (by omega) ?_
   clear H; intro w7 H _
   refine nl ?_
   refine then_n ?_
   refine dn (by kernel_rfl) ?_
   refine then_n ?_
   refine sq ?_
   refine rg ?_
   refine mv (v := .pointer _) rfl rfl ?_
   refine mv (v := .int .i64 _) rfl rfl ?_
   refine nc rfl rfl ?_
   refine fa rfl fo106_1 rfl ?_
   refine st (v := .int .i64 _) H rfl rfl sc3 rfl (by first | decide | (simp only [List.length_set, List.length_cons, List.length_nil, List.length_replicate, List.length_append, Bs_length]; omega) | omega) (by omega) ?_
   clear H; intro w8 H _
   refine nl ?_
   refine then_n ?_
   refine sq ?_
   refine rg ?_
   refine mv (v := .pointer _) rfl rfl ?_
   refine mv (v := .int .i64 _) rfl rfl ?_
   refine nc rfl rfl ?_
   refine fa rfl fo106_2 rfl ?_
   refine st (v := .int .i64 _) H rfl rfl sc3 rfl (by first | decide | (simp only [List.length_set, List.length_cons, List.length_nil, List.length_replicate, List.length_append, Bs_length]; omega) | omega) (by omega) ?_
   clear H; intro w9 H _
   refine nl ?_
   refine then_n ?_
   refine sq ?_
   refine rg ?_
   refine mv (v := .pointer _) rfl rfl ?_
   refine nc rfl rfl ?_
   refine fa rfl fo106_14 rfl ?_
   refine st (v := .bool _) H rfl rfl sc4 rfl (by first | decide | (simp only [List.length_set, List.length_cons, List.length_nil, List.length_replicate, List.length_append, Bs_length]; omega) | omega) (by omega) ?_
   clear H; intro w10 H _
   refine nl ?_
   refine then_n ?_
   refine sq ?_
   refine rg ?_
   refine mv (v := .int .i64 _) rfl rfl ?_
   have hsz2 := H.size
   refine mkB H rfl rfl Tryz.underlying30 mi5 (by omega) (by omega) (by omega) (by omega) rfl ?_
   clear H; intro b4 w11 hb4 H _
   refine asg (v := .slice _ _ _) rfl rfl ?_
   refine nl ?_
   refine then_n ?_
   refine sq ?_
   refine rg ?_
   refine mv (v := .iface _ _) rfl rfl ?_
   refine mv (v := .slice _ _ _) rfl rfl ?_
   refine mc rfl me67_ReadAt ca120 (c_readAt _ bm bd b4 L c 0 0 512 512 _ ds (List.replicate 512 0) (H.fr.cell hm (by simp)) (hd.keep H.fr) (H.look (b := b4)) ⟨fun h => by simp at hbm; omega, fun h => by omega⟩ (by omega) (by omega) (by decide) (by rw [List.length_replicate]; decide) (by omega)) rfl ?_
   rintro _ w12 ⟨rfl, F, hnew⟩
   replace H := H.put (b := b4) F hnew; clear F hnew
   replace H := sh_cells0 H (congrArg Bs (pAt_all (by rw [hbl0, List.length_replicate])))
   refine mv (v := .tuple _) rfl rfl ?_
   refine xt rfl rfl rfl ?_
   refine xt rfl rfl rfl ?_
   refine asg (v := .int .i64 _) rfl rfl ?_
   refine asg (v := .nilIface) rfl rfl ?_
   refine nl ?_
   refine then_n ?_
   refine sq ?_
   refine sq ?_
   refine rg ?_
   refine mv (v := .nilIface) rfl rfl ?_
   refine eqlI0 rfl Tryz.underlying73 rfl ?_
   refine mv (v := .bool _) rfl rfl ?_
   refine spL (t := 87) (b := true) rfl ?_
   refine gy rfl ?_
   refine mv (v := .int .i64 _) rfl rfl ?_
   refine gy rfl ?_
   refine mv (v := .slice _ _ _) rfl rfl ?_
   refine gy rfl ?_
   refine lnS rfl Tryz.underlying30 rfl ?_
   refine gy rfl ?_
   refine eql rfl rfl rfl ?_
   refine pkT (v := .bool _) rfl rfl rfl ?_
   refine nl ?_
   refine then_n ?_
   refine cT rfl rfl ?_
   refine rg ?_
   refine mv (v := .pointer _) rfl rfl ?_
   refine mv (v := .slice _ _ _) rfl rfl ?_
   refine mv (v := .pointer _) rfl rfl ?_
   refine nc rfl rfl ?_
   refine fa rfl fo106_11 rfl ?_
   refine ld H rfl sc28 rfl rfl ?_
   refine cvi (c := (fld ds (512 * b + 24) 8) % 4294967296) rfl rfl Tryz.underlying58 (m_u32 _) rfl ?_
   refine cl ca82 (c_readProt _ b4 0 512 (pcs ds 0 512) _ (RB.allm (b := b4) H hbl0) (by decide)) rfl ?_
   rintro _ w13 ⟨rfl, F⟩
   replace H := H.keep F; clear F
   refine nc rfl rfl ?_
   refine fa rfl fo106_4 rfl ?_
   refine st (v := .bool _) H rfl rfl sc4 rfl (by first | decide | (simp only [List.length_set, List.length_cons, List.length_nil, List.length_replicate, List.length_append, Bs_length]; omega) | omega) (by omega) ?_
   clear H; intro w14 H _
   refine nl ?_
   refine then_n ?_
   refine sq ?_
   refine rg ?_
   refine mv (v := .iface _ _) rfl rfl ?_
   refine mv (v := .pointer _) rfl rfl ?_
   refine mv (v := .int .i64 _) rfl rfl ?_
   refine mv (v := .int .i64 _) rfl rfl ?_
   refine cl ca80 (c_loadE _ p f bm bd L c ds (H.fr.cell hm (by simp)) (hd.keep H.fr) hL hLc _ _ _ _ _ _ _ _ _ (H.look (b := p)) ⟨fun h => by simp at hbm; have := hlt.2; omega, fun h => by have := hlt.2; omega⟩ (by omega)) rfl ?_
   rintro _ w15 ⟨F, A10, e10, rfl, hie2, hif2, hce, hok2⟩
   refine xt rfl rfl rfl ?_
   refine xt rfl rfl rfl ?_
   refine asg (v := .pointer _) rfl rfl ?_
   refine asg rfl rfl ?_
   refine nl ?_
   refine then_n ?_
   refine rt ?_
   refine fin_r ?_
   have hge : w.heap.size ≤ p := Nat.le_trans hlt.2 hp1
   have hmy : fld ds (512 * b + 24) 8 = (b : Int) := Classical.not_not.1 hc4
   have hq : (hdrGood ds (512 * b) && decide (fld ds (512 * b + 24) 8 = (b : Int)) && decide (fld ds (512 * b + 88) 4 = crc32 (pcs ds (512 * f) 16384))) = decide (fld ds (512 * b + 88) 4 = crc32 (pcs ds (512 * f) 16384)) := by rw [hgd, decide_eq_true hmy]; rfl
   rw [hq]
   refine ⟨H.fr.then F (by simpa using hge), A10, e10, rfl, hie2, hif2, ?_⟩
   intro h
   obtain ⟨rfl, D, cap, l, h1, h2, O⟩ := hok2 (of_decide_eq_true h)
   exact ⟨p, rfl, D, cap, l, h1, h2, O.under H.fr hge⟩

end Go.Proofs.YthcaejaaalkglaaGreatDoor.X

/- Walks of functions, printed by a program of this claim. -/
namespace Go.Proofs.YthcaejaaalkglaaGreatDoor.X
set_option linter.unusedVariables false
set_option linter.unusedSimpArgs false
open Go Go.RowKit

namespace PF
theorem ca62 : callable Tryz.prog 62 = true := by kernel_rfl
theorem ca63 : callable Tryz.prog 63 = true := by kernel_rfl
theorem ca64 : callable Tryz.prog 64 = true := by kernel_rfl
theorem fo106_5 : fieldOff Tryz.prog 106 5 = some 5 := by kernel_rfl
end PF
open PF

set_option maxRecDepth 100000 in
set_option maxHeartbeats 1000000 in
theorem c_gptRead (w : World) (bm bd L c : Nat) (x1 x2 x3 : Value) (ds : List UInt8) (hm : w.heap[bm]? = some (.cells [.slice (some ⟨bd, 0, none⟩) L c, x1, x2, x3].toArray 76 (0, 0))) (hd : RB w (some ⟨bd, 0, none⟩) L ds) (hne : bm ≠ bd) (hL : 34816 ≤ L ∧ L ≤ 1000000000) (hLc : L ≤ c) (b f : Nat) (hLb : L = 512 * (b + 1)) (hf : 512 * f + 16384 ≤ L) (hcan1 : hdrGood ds 512 = true → fld ds 584 8 = 2 ∧ fld ds 592 4 = 128 ∧ fld ds 596 4 = 128) (hcan2 : hdrGood ds (512 * b) = true → fld ds (512 * b + 72) 8 = (f : Int) ∧ fld ds (512 * b + 80) 4 = 128 ∧ fld ds (512 * b + 84) 4 = 128) : Calls Tryz.prog 49 #[.iface 67 (.pointer (some ⟨bm, 0, none⟩)), .int .i64 512, .int .i64 512] w (Ret fun v w' => Fr [bm] w w' ∧ (∃ x, w'.heap[bm]? = some (.cells [.slice (some ⟨bd, 0, none⟩) L c, x, x2, x3].toArray 76 (0, 0))) ∧ ∃ A e, v = .tuple #[.pointer A, e] ∧ Ifc e ∧ isIf e = !((hdrGood ds 512 && decide (fld ds 600 4 = crc32 (pcs ds 1024 16384))) || (hdrGood ds (512 * b) && decide (fld ds (512 * b + 24) 8 = (b : Int)) && decide (fld ds (512 * b + 88) 4 = crc32 (pcs ds (512 * f) 16384)))) ∧ ((hdrGood ds 512 && decide (fld ds 600 4 = crc32 (pcs ds 1024 16384))) = true → ∃ p, A = some ⟨p, 0, none⟩ ∧ ∃ D cap l, l.map Prod.snd = usedC (pcs ds 1024 16384) 128 ∧ l.length ≤ 128 ∧ OR 123 1 w [bm] w' (⟨p, .cells (tbC D l.length cap 512 512 (gT (pcs ds 568 16)) (protB (pcs ds 0 512) (fld ds 544 8 % 4294967296)) false 128 128 2 (fld ds (600) 4) (fld ds (536) 8) (fld ds (544) 8) (fld ds (552) 8) (fld ds (560) 8) true).toArray 106 (0, 0), true⟩ :: ents 126 l) D l.length cap (ptrs l)) ∧ ((hdrGood ds 512 && decide (fld ds 600 4 = crc32 (pcs ds 1024 16384))) = false → (hdrGood ds (512 * b) && decide (fld ds (512 * b + 24) 8 = (b : Int)) && decide (fld ds (512 * b + 88) 4 = crc32 (pcs ds (512 * f) 16384))) = true → ∃ p, A = some ⟨p, 0, none⟩ ∧ ∃ D cap l, l.map Prod.snd = usedC (pcs ds (512 * f) 16384) 128 ∧ l.length ≤ 128 ∧ OR 123 1 w [bm] w' (⟨p, .cells (tbC D l.length cap 512 512 (gT (pcs ds (512 * b + 56) 16)) (protB (pcs ds 0 512) ((fld ds (512 * b + 24) 8) % 4294967296)) true 128 128 f (fld ds (512 * b + 88) 4) (fld ds (512 * b + 32) 8) (fld ds (512 * b + 24) 8) (fld ds (512 * b + 40) 8) (fld ds (512 * b + 48) 8) true).toArray 106 (0, 0), true⟩ :: ents 126 l) D l.length cap (ptrs l))) := by
 refine enter (fun ρ => .tuple #[ρ 6, ρ 7]) Tryz.func49 rfl rfl rfl (res2 rfl) ?_
 have H := SH.rw1 hm
 refine sq ?_
 refine rg ?_
 refine asg (v := .pointer _) rfl rfl ?_
 refine asg (v := .nilIface) rfl rfl ?_
 refine nl ?_
 refine then_n ?_
 refine sq ?_
 refine rg ?_
 refine mv (v := .iface _ _) rfl rfl ?_
 refine mv (v := .int .i64 _) rfl rfl ?_
 refine mv (v := .int .i64 _) rfl rfl ?_
 refine cl ca62 (c_readPrim _ bm bd L c ds (cell_at (H.look (b := bm))) hd ⟨by omega, hL.2⟩ hLc (by omega) hcan1) rfl ?_
 rintro _ w1 ⟨F, A9, e9, rfl, hie, hif, hce, hok⟩
 replace H := H.keep F
 refine mv (v := .tuple _) rfl rfl ?_
 refine xt rfl rfl rfl ?_
 refine xt rfl rfl rfl ?_
 refine asg (v := .pointer _) rfl rfl ?_
 refine asg rfl rfl ?_
 refine nl ?_
 refine then_n ?_
 refine sq ?_
 refine sq ?_
 refine rg ?_
 refine mv rfl rfl ?_
 refine eqlIG rfl Tryz.underlying73 (by assumption) rfl ?_
 refine nl ?_
 refine then_n ?_
 refine cn rfl (fun hc1 => ?_) (fun hc1 => ?_)
 ·have hg1 : (hdrGood ds 512 && decide (fld ds 600 4 = crc32 (pcs ds 1024 16384))) = true := by exact nb_f hif (by have h8 : (!isIf e9) = true := hc1; cases hq : isIf e9 with | true => rw [hq] at h8; exact Bool.noConfusion h8 | false => rfl)
  obtain ⟨p, rfl, D9, cap9, l9, h1, h2, O⟩ := hok hg1
  refine sq ?_
  refine rg ?_
  refine mv (v := .pointer _) rfl rfl ?_
  refine asg (v := .pointer _) rfl rfl ?_
  refine asg (v := .nilIface) rfl rfl ?_
  refine nl ?_
  refine then_n ?_
  refine rt ?_
  refine then_r ?_
  refine fin_r ?_
  exact ⟨H.fr, ⟨_, H.look⟩, _, _, rfl, .inl rfl, by rw [hg1]; rfl, fun _ => ⟨p, rfl, D9, cap9, l9, h1, h2, O.wide⟩, fun h => by rw [hg1] at h; exact Bool.noConfusion h⟩
 ·have hg1 : (hdrGood ds 512 && decide (fld ds 600 4 = crc32 (pcs ds 1024 16384))) = false := by exact nb_t hif (by have h8 : (!isIf e9) = false := hc1; cases hq : isIf e9 with | false => rw [hq] at h8; exact Bool.noConfusion h8 | true => rfl)
  obtain ⟨x9, rfl⟩ := hce hg1
  refine sk ?_
  refine then_n ?_
  refine sq ?_
  refine sq ?_
  refine rg ?_
  refine mv (v := .iface _ _) rfl rfl ?_
  refine taP rfl Tryz.underlying130 rfl rfl ?_
  refine mv (v := .tuple _) rfl rfl ?_
  refine xt rfl rfl rfl ?_
  refine xt rfl rfl rfl ?_
  refine asg (v := .pointer _) rfl rfl ?_
  refine asg (v := .bool _) rfl rfl ?_
  refine nl ?_
  refine then_n ?_
  refine sq ?_
  refine rg ?_
  refine mv (v := .bool _) rfl rfl ?_
  refine unot rfl rfl ?_
  refine nl ?_
  refine then_n ?_
  refine cbF rfl rfl ?_
  refine sk ?_
  refine then_n ?_
  refine sq ?_
  refine rg ?_
  refine mv (v := .iface _ _) rfl rfl ?_
  refine cl ca63 (c_seekSize _ bm bd L c x1 x2 x3 (H.look (b := bm)) hL.2) rfl ?_
  rintro _ w2 ⟨rfl, F3, hnew⟩
  replace H := H.put (b := bm) F3 hnew; clear F3 hnew
  refine mv (v := .tuple _) rfl rfl ?_
  refine xt rfl rfl rfl ?_
  refine xt rfl rfl rfl ?_
  refine asg (v := .int .i64 _) rfl rfl ?_
  refine asg (v := .nilIface) rfl rfl ?_
  refine nl ?_
  refine then_n ?_
  refine sq ?_
  refine sq ?_
  refine rg ?_
  refine mv (v := .nilIface) rfl rfl ?_
  refine neqI0 rfl Tryz.underlying73 rfl ?_
  refine nl ?_
  refine then_n ?_
  refine cbF rfl rfl ?_
  refine sk ?_
  refine then_n ?_
  refine sq ?_
  refine sq ?_
  refine rg ?_
  refine mv (v := .int .i64 _) rfl rfl ?_
  refine mv (v := .int .i64 _) rfl rfl ?_
  refine mul rfl rfl (by first | exact w_i64 (by omega) | exact w_i64 (rng_i64 _) | rfl) rfl ?_
  refine lss rfl rfl rfl ?_
  refine nl ?_
  refine then_n ?_
  refine cF rfl (by omega) ?_
  refine sk ?_
  refine then_n ?_
  refine sq ?_
  refine rg ?_
  refine mv (v := .int .i64 _) rfl rfl ?_
  refine mv (v := .int .i64 _) rfl rfl ?_
  refine quo (c := ((b + 1 : Nat) : Int)) rfl rfl (by omega) (by omega) (by rw [w_i64 (by omega)]; omega) rfl ?_
  refine cvi rfl rfl Tryz.underlying28 (by first | exact w_u64 (by omega) | exact w_u64 (rng_u64 _) | exact m_u64 _) rfl ?_
  refine sub (c := (b : Int)) rfl rfl (by rw [w_u64 (by omega)]; omega) rfl ?_
  refine asg (v := .int .u64 _) rfl rfl ?_
  refine nl ?_
  refine then_n ?_
  refine sq ?_
  refine rg ?_
  refine mv (v := .iface _ _) rfl rfl ?_
  refine mv (v := .int .i64 _) rfl rfl ?_
  refine mv (v := .int .i64 _) rfl rfl ?_
  refine mv (v := .int .u64 _) rfl rfl ?_
  refine cl ca64 (c_readBack _ b f bm bd L c ds (cell_at (H.look (b := bm))) (hd.now H.fr (by simpa using Ne.symm hne)) ⟨by omega, hL.2⟩ hLc (by omega) hf hcan2) rfl ?_
  rintro _ w3 ⟨F2, A10, e10, rfl, hie2, hif2, hok2⟩
  refine mv (v := .tuple _) rfl rfl ?_
  refine xt rfl rfl rfl ?_
  refine xt rfl rfl rfl ?_
  refine asg (v := .pointer _) rfl rfl ?_
  refine asg rfl rfl ?_
  refine nl ?_
  refine then_n ?_
  refine sq ?_
  refine sq ?_
  refine rg ?_
  refine mv rfl rfl ?_
  refine neqIG rfl Tryz.underlying73 (by assumption) rfl ?_
  refine nl ?_
  refine then_n ?_
  refine cn rfl (fun hc5 => ?_) (fun hc5 => ?_)
  ·replace H := H.keep F2
   have hg2 : (hdrGood ds (512 * b) && decide (fld ds (512 * b + 24) 8 = (b : Int)) && decide (fld ds (512 * b + 88) 4 = crc32 (pcs ds (512 * f) 16384))) = false := nb_t hif2 hc5
   refine sq ?_
   refine rg ?_
   refine cl ca50 (c_errNew _ _) rfl ?_
   rintro _ w4 ⟨⟨be1, rfl⟩, F⟩
   replace H := H.keep F; clear F
   refine asg (v := .pointer _) rfl rfl ?_
   refine asg (v := .iface _ _) rfl rfl ?_
   refine nl ?_
   refine then_n ?_
   refine rt ?_
   refine then_r ?_
   refine fin_r ?_
   exact ⟨H.fr, ⟨_, H.look⟩, _, _, rfl, .inr ⟨_, _, rfl⟩, by rw [hg1, hg2]; rfl, fun h => by rw [hg1] at h; exact Bool.noConfusion h, fun _ h => by rw [hg2] at h; exact Bool.noConfusion h⟩
  ·have hg2 : (hdrGood ds (512 * b) && decide (fld ds (512 * b + 24) 8 = (b : Int)) && decide (fld ds (512 * b + 88) 4 = crc32 (pcs ds (512 * f) 16384))) = true := nb_f hif2 hc5
   obtain ⟨p, rfl, D9, cap9, l9, h1, h2, O⟩ := hok2 hg2
   replace O := O.joinN H ents_m1
   simp only [List.cons_append, List.nil_append] at O
   replace H := O.sh
   refine sk ?_
   refine then_n ?_
   refine sq ?_
   refine rg ?_
   refine mv (v := .pointer _) rfl rfl ?_
   refine nc rfl rfl ?_
   refine fa rfl fo106_5 rfl ?_
   refine st (v := .bool _) H rfl rfl sc4 rfl (by show 0 + 5 < 15; decide) (by omega) ?_
   intro w95 H1 F; replace O := O.put F H1.look; clear H H1 F; have H := O.sh
   refine nl ?_
   refine then_n ?_
   refine sq ?_
   refine rg ?_
   refine mv (v := .pointer _) rfl rfl ?_
   refine asg (v := .pointer _) rfl rfl ?_
   refine asg (v := .nilIface) rfl rfl ?_
   refine nl ?_
   refine then_n ?_
   refine rt ?_
   refine fin_r ?_
   exact ⟨H.fr, ⟨_, H.look⟩, _, _, rfl, .inl rfl, by rw [hg1, hg2]; rfl, fun h => by rw [hg1] at h; exact Bool.noConfusion h, fun _ _ => ⟨p, rfl, D9, cap9, l9, h1, h2, O.sub (List.Sublist.cons _ (List.Sublist.refl _))⟩⟩

end Go.Proofs.YthcaejaaalkglaaGreatDoor.X

/- Walks of functions, printed by a program of this claim. -/
namespace Go.Proofs.YthcaejaaalkglaaGreatDoor.X
set_option linter.unusedVariables false
set_option linter.unusedSimpArgs false
open Go Go.RowKit

namespace PF
theorem ca47 : callable Tryz.prog 47 = true := by kernel_rfl
theorem ca48 : callable Tryz.prog 48 = true := by kernel_rfl
theorem ca49 : callable Tryz.prog 49 = true := by kernel_rfl
theorem cc67 : Tryz.prog.concrete 67 = true := by kernel_rfl
end PF
open PF

set_option maxRecDepth 100000 in
set_option maxHeartbeats 1000000 in
theorem c_implRead (w : World) (bm bd L c : Nat) (x1 x2 x3 : Value) (ds : List UInt8) (hm : w.heap[bm]? = some (.cells [.slice (some ⟨bd, 0, none⟩) L c, x1, x2, x3].toArray 76 (0, 0))) (hd : RB w (some ⟨bd, 0, none⟩) L ds) (hne : bm ≠ bd) (hL : 34816 ≤ L ∧ L ≤ 1000000000) (hLc : L ≤ c) (b f : Nat) (hLb : L = 512 * (b + 1)) (hf : 512 * f + 16384 ≤ L) (hcan1 : hdrGood ds 512 = true → fld ds 584 8 = 2 ∧ fld ds 592 4 = 128 ∧ fld ds 596 4 = 128) (hcan2 : hdrGood ds (512 * b) = true → fld ds (512 * b + 72) 8 = (f : Int) ∧ fld ds (512 * b + 80) 4 = 128 ∧ fld ds (512 * b + 84) 4 = 128) (hfit1 : fitsB ds 512 512 = true) (hfit2 : fitsB ds 512 (512 * b) = true) : Calls Tryz.prog 31 #[.pointer (some ⟨bm, 0, none⟩), .int .i64 512] w (Ret fun v w' => Fr [bm] w w' ∧ (∃ x, w'.heap[bm]? = some (.cells [.slice (some ⟨bd, 0, none⟩) L c, x, x2, x3].toArray 76 (0, 0))) ∧ ∃ A, v = .tuple #[.pointer A, .bool ((hdrGood ds 512 && decide (fld ds 600 4 = crc32 (pcs ds 1024 16384))) || (hdrGood ds (512 * b) && decide (fld ds (512 * b + 24) 8 = (b : Int)) && decide (fld ds (512 * b + 88) 4 = crc32 (pcs ds (512 * f) 16384))))] ∧ ((hdrGood ds 512 && decide (fld ds 600 4 = crc32 (pcs ds 1024 16384))) = true → ∃ p, A = some ⟨p, 0, none⟩ ∧ ∃ D cap l, l.map Prod.snd = usedC (pcs ds 1024 16384) 128 ∧ l.length ≤ 128 ∧ OR 123 1 w [bm] w' (⟨p, .cells (tbC D l.length cap 512 512 (gT (pcs ds 568 16)) (protB (pcs ds 0 512) (fld ds 544 8 % 4294967296)) false 128 128 2 (fld ds (600) 4) (fld ds (536) 8) (fld ds (544) 8) (fld ds (552) 8) (fld ds (560) 8) true).toArray 106 (0, 0), true⟩ :: ents 126 l) D l.length cap (ptrs l)) ∧ ((hdrGood ds 512 && decide (fld ds 600 4 = crc32 (pcs ds 1024 16384))) = false → (hdrGood ds (512 * b) && decide (fld ds (512 * b + 24) 8 = (b : Int)) && decide (fld ds (512 * b + 88) 4 = crc32 (pcs ds (512 * f) 16384))) = true → ∃ p, A = some ⟨p, 0, none⟩ ∧ ∃ D cap l, l.map Prod.snd = usedC (pcs ds (512 * f) 16384) 128 ∧ l.length ≤ 128 ∧ OR 123 1 w [bm] w' (⟨p, .cells (tbC D l.length cap 512 512 (gT (pcs ds (512 * b + 56) 16)) (protB (pcs ds 0 512) ((fld ds (512 * b + 24) 8) % 4294967296)) true 128 128 f (fld ds (512 * b + 88) 4) (fld ds (512 * b + 32) 8) (fld ds (512 * b + 24) 8) (fld ds (512 * b + 40) 8) (fld ds (512 * b + 48) 8) true).toArray 106 (0, 0), true⟩ :: ents 126 l) D l.length cap (ptrs l))) := by
 refine enter (fun ρ => .tuple #[ρ 4, ρ 5]) Tryz.func31 rfl rfl rfl (res2 rfl) ?_
 have H := SH.rw1 hm
 refine sq ?_
 refine rg ?_
 refine asg (v := .pointer _) rfl rfl ?_
 refine asg (v := .bool _) rfl rfl ?_
 refine nl ?_
 refine then_n ?_
 refine sq ?_
 refine sq ?_
 refine dr (by kernel_rfl) ?_
 have H := H.drew
 refine holdH H [] ?_
 refine tk (i := 0) rfl (by kernel_rfl) rfl H (fun w' H => r_mv (v := .int .i64 _) rfl) ?_
 refine fk (i := 1) (by kernel_rfl) rfl rfl rfl ?_
 refine cl ca47 (c_secAsked _ 512 (by decide)) rfl ?_
 rintro _ w1 ⟨rfl, F⟩
 replace H := H.keep F; clear F
 refine nl ?_
 refine then_n ?_
 refine ⟨H, ?_⟩
 refine tk (i := 2) rfl (by kernel_rfl) rfl H (fun w' H => r_unot rfl) ?_
 refine tk (i := 3) rfl (by kernel_rfl) rfl H (fun w' H => r_mv (v := .bool _) rfl) ?_
 refine spaL (t := 11) (b := false) rfl ?_
 refine tkg (i := 4) rfl (by kernel_rfl) rfl H rfl (fun w' H => r_mv (v := .pointer _) rfl) ?_
 refine tkg (i := 5) rfl (by kernel_rfl) rfl H rfl (fun w' H => r_nc rfl) ?_
 refine tkg (i := 6) rfl (by kernel_rfl) rfl H rfl (fun w' H => r_fa rfl fo76_0) ?_
 refine tkg (i := 7) rfl (by kernel_rfl) rfl H rfl (fun w' H => r_ld H rfl sc30 rfl) ?_
 refine tkg (i := 8) rfl (by kernel_rfl) rfl H rfl (fun w' H => r_mv (v := .int .i64 _) rfl) ?_
 refine tkg (i := 9) rfl (by kernel_rfl) rfl H rfl (fun w' H => r_mv (v := .int .i64 _) rfl) ?_
 refine fk (i := 10) (by kernel_rfl) rfl rfl rfl ?_
 refine gy rfl ?_
 refine cl ca48 (c_gptFits _ bd L c 512 512 ds (hd.now H.fr (by simpa using Ne.symm hne)) (by omega) hL.2 hLc (by decide)) rfl ?_
 rintro _ w2 ⟨rfl, F⟩
 replace H := H.keep F; clear F
 rw [hfit1]
 refine nl ?_
 refine then_n ?_
 refine ⟨H, ?_⟩
 refine tkg (i := 11) rfl (by kernel_rfl) rfl H rfl (fun w' H => r_unot rfl) ?_
 refine tk (i := 12) rfl (by kernel_rfl) rfl H (fun w' H => r_pkF (v := .bool _) rfl rfl) ?_
 refine tk (i := 13) rfl (by kernel_rfl) rfl H (fun w' H => r_mv (v := .bool _) rfl) ?_
 refine spaL (t := 21) (b := false) rfl ?_
 refine tkg (i := 14) rfl (by kernel_rfl) rfl H rfl (fun w' H => r_mv (v := .pointer _) rfl) ?_
 refine tkg (i := 15) rfl (by kernel_rfl) rfl H rfl (fun w' H => r_nc rfl) ?_
 refine tkg (i := 16) rfl (by kernel_rfl) rfl H rfl (fun w' H => r_fa rfl fo76_0) ?_
 refine tkg (i := 17) rfl (by kernel_rfl) rfl H rfl (fun w' H => r_ld H rfl sc30 rfl) ?_
 refine tkg (i := 18) rfl (by kernel_rfl) rfl H rfl (fun w' H => r_mv (v := .int .i64 _) rfl) ?_
 refine tkg (i := 19) rfl (by kernel_rfl) rfl H rfl (fun w' H => r_mv (v := .pointer _) rfl) ?_
 refine tkg (i := 20) rfl (by kernel_rfl) rfl H rfl (fun w' H => r_nc rfl) ?_
 refine tkg (i := 21) rfl (by kernel_rfl) rfl H rfl (fun w' H => r_fa rfl fo76_0) ?_
 refine tkg (i := 22) rfl (by kernel_rfl) rfl H rfl (fun w' H => r_ld H rfl sc30 rfl) ?_
 refine tkg (i := 23) rfl (by kernel_rfl) rfl H rfl (fun w' H => r_lnS rfl Tryz.underlying30) ?_
 refine tkg (i := 24) rfl (by kernel_rfl) rfl H rfl (fun w' H => r_mv (v := .int .i64 _) rfl) ?_
 refine tkg (i := 25) rfl (by kernel_rfl) rfl H rfl (fun w' H => r_quo (c := ((b + 1 : Nat) : Int)) rfl rfl (by omega) (by omega) (by rw [w_i64 (by omega)]; omega)) ?_
 refine tkg (i := 26) rfl (by kernel_rfl) rfl H rfl (fun w' H => r_mv (v := .int .i64 _) rfl) ?_
 refine tkg (i := 27) rfl (by kernel_rfl) rfl H rfl (fun w' H => r_mul (c := ((512 * (b + 1) : Nat) : Int)) rfl rfl (by rw [w_i64 (by omega)]; omega)) ?_
 refine tkg (i := 28) rfl (by kernel_rfl) rfl H rfl (fun w' H => r_mv (v := .int .i64 _) rfl) ?_
 refine tkg (i := 29) rfl (by kernel_rfl) rfl H rfl (fun w' H => r_sub (c := ((512 * b : Nat) : Int)) rfl rfl (by rw [w_i64 (by omega)]; omega)) ?_
 refine fk (i := 30) (by kernel_rfl) rfl rfl rfl ?_
 refine gy rfl ?_
 refine cl ca48 (c_gptFits _ bd L c 512 (512 * b) ds (hd.now H.fr (by simpa using Ne.symm hne)) (by omega) hL.2 hLc (by decide)) rfl ?_
 rintro _ w3 ⟨rfl, F⟩
 replace H := H.keep F; clear F
 rw [hfit2]
 refine nl ?_
 refine then_n ?_
 refine ⟨H, ?_⟩
 refine tkg (i := 31) rfl (by kernel_rfl) rfl H rfl (fun w' H => r_unot rfl) ?_
 refine tk (i := 32) rfl (by kernel_rfl) rfl H (fun w' H => r_pkF (v := .bool _) rfl rfl) ?_
 refine da (by kernel_rfl) ?_
 refine then_n ?_
 refine cbF rfl rfl ?_
 refine sk ?_
 refine then_n ?_
 refine sq ?_
 refine rg ?_
 refine mv (v := .pointer _) rfl rfl ?_
 refine mi (v := .pointer _) rfl cc67 rfl ?_
 refine mv (v := .int .i64 _) rfl rfl ?_
 refine mv (v := .int .i64 _) rfl rfl ?_
 refine cl ca49 (c_gptRead _ bm bd L c x1 x2 x3 ds (H.look (b := bm)) (hd.now H.fr (by simpa using Ne.symm hne)) hne hL hLc b f hLb hf hcan1 hcan2) rfl ?_
 have F0 := H.fr
 rintro _ w4 ⟨F, ⟨x9, hm9⟩, A9, e9, rfl, hie, hif, hr1, hr2⟩
 replace H := H.put (b := bm) F hm9
 refine mv (v := .tuple _) rfl rfl ?_
 refine xt rfl rfl rfl ?_
 refine xt rfl rfl rfl ?_
 refine asg (v := .pointer _) rfl rfl ?_
 refine asg rfl rfl ?_
 refine nl ?_
 refine then_n ?_
 refine sq ?_
 refine dr (by kernel_rfl) ?_
 have H := H.drew
 refine hold (fun _ => True) [] ?_
 refine tk (i := 0) rfl (by kernel_rfl) rfl trivial (fun _ _ => r_mv (v := .pointer _) rfl) ?_
 refine tk (i := 1) rfl (by kernel_rfl) rfl trivial (fun _ _ => r_mv rfl) ?_
 refine tk (i := 2) rfl (by kernel_rfl) rfl trivial (fun _ _ => r_eqlIG rfl Tryz.underlying73 (by assumption)) ?_
 refine tk (i := 3) rfl (by kernel_rfl) rfl trivial (fun _ _ => r_asg (v := .pointer _) rfl) ?_
 refine tk (i := 4) rfl (by kernel_rfl) rfl trivial (fun _ _ => r_asg (v := .bool _) rfl) ?_
 refine unfree ?_
 refine dn (by kernel_rfl) ?_
 refine then_n ?_
 refine rt ?_
 refine fin_r ?_
 refine ⟨H.fr, ⟨x9, hm9⟩, A9, ?_, fun h => ?_, fun h1 h2 => ?_⟩
 ·show Value.tuple #[.pointer A9, .bool (!isIf e9)] = _
  rw [hif, Bool.not_not]
 ·obtain ⟨p, hp, D, cap, l, k1, k2, O⟩ := hr1 h
  exact ⟨p, hp, D, cap, l, k1, k2, (O.backS F0).drew⟩
 ·obtain ⟨p, hp, D, cap, l, k1, k2, O⟩ := hr2 h1 h2
  exact ⟨p, hp, D, cap, l, k1, k2, (O.backS F0).drew⟩

end Go.Proofs.YthcaejaaalkglaaGreatDoor.X

/- What the package tells of a table. -/
namespace Go.Proofs.YthcaejaaalkglaaGreatDoor.X
set_option linter.unusedVariables false
open Go Go.RowKit
/-- A partition's cells, of the package's own kind. -/
def pc (p : GP) : List Value := p.cells ++ [.int .i64 512, .int .i64 512]
def gpE (k : Int) (e : List UInt8) : GP := ⟨k, fld e 32 8, fld e 40 8, szE e, gT (pcs e 0 16), nmB e, gT (pcs e 16 16), fld e 48 8⟩
theorem entC_pc (k : Int) (e : List UInt8) : entC k (szE e) e = pc (gpE k e) := rfl
def useP (ar : List UInt8) (j : Nat) : Option GP := if freeE (entA ar j) then none else some (gpE ((j : Int) + 1) (entA ar j))
def usedP (ar : List UInt8) (i : Nat) : List GP := (List.range i).filterMap (useP ar)
theorem usedC_P (ar : List UInt8) (i : Nat) : usedC ar i = (usedP ar i).map pc := by
  unfold usedC usedP
  rw [List.map_filterMap]
  congr 1
  funext j
  unfold useJ useP
  split <;> simp [entC_pc]
/-- A row of pointers to partitions, to be read. -/
def PR (T : TypeId) (w : World) (D : Option Addr) (l : PL) : Prop := ∀ i x, l[i]? = some x → ∃ ad, D = some ad ∧ w.cell? (ad.add i) = some (.pointer (some ⟨x.1, 0, none⟩)) ∧ w.heap[x.1]? = some (.cells x.2.toArray T (0, 0))
theorem OR.pr {T e : TypeId} {w0 w : World} {S : List Nat} {L : List Ent} {D : Option Addr} {k cap : Nat} {l : PL} (O : OR e 1 w0 S w L D k cap (ptrs l)) (hs : ∀ x ∈ ents T l, x ∈ L) : PR T w D l := by
  intro i x hx
  have hi := (List.getElem?_eq_some_iff.1 hx).1
  have hl : l.length = k := by have := O.len; simpa [ptrs_len] using this
  obtain ⟨ad, rfl⟩ := O.some_of (by omega)
  exact ⟨ad, rfl, O.one (ptrs_get hx), O.sh.ptr hs hx⟩
theorem PR.keep {T : TypeId} {w w' : World} {D : Option Addr} {l : PL} (h : PR T w D l) (f : Fr [] w w') : PR T w' D l := fun i x hx => by
  obtain ⟨ad, e, h1, h2⟩ := h i x hx
  exact ⟨ad, e, f.cell h1 (by simp), f.at h2 (by simp)⟩
/-- Are two partitions the same to the statements? -/
def sameP (p q : GP) : Bool := decide (p.ix = q.ix) && (decide (p.st = q.st) && (decide (p.en = q.en) && (decide (p.sz = q.sz) && (sameG p.ty q.ty && (sameG p.gu q.gu && (decide (p.nm = q.nm) && decide (p.att = q.att)))))))
def sameT (g h : List UInt8) (ps qs : List GP) : Bool := sameG g h && (decide (ps.length = qs.length) && (ps.zip qs).all fun x => sameP x.1 x.2)
theorem sameT_t {g h : List UInt8} {ps qs : List GP} (h1 : sameG g h = true) (h2 : ps.length = qs.length) (h3 : ∀ j p q, j < ps.length → ps[j]? = some p → qs[j]? = some q → sameP p q = true) : sameT g h ps qs = true := by
  unfold sameT
  rw [h1, decide_eq_true h2, Bool.true_and, Bool.true_and, List.all_eq_true]
  intro x hx
  obtain ⟨j, hj, e⟩ := List.mem_iff_getElem.1 hx
  rw [List.getElem_zip] at e
  have hj' : j < ps.length ∧ j < qs.length := by rw [List.length_zip] at hj; omega
  exact h3 j x.1 x.2 hj'.1 (by rw [List.getElem?_eq_getElem hj'.1, ← e]) (by rw [List.getElem?_eq_getElem hj'.2, ← e])
theorem sameT_f {g h : List UInt8} {ps qs : List GP} {j : Nat} {p q : GP} (hp : ps[j]? = some p) (hq : qs[j]? = some q) (h3 : sameP p q = false) : sameT g h ps qs = false := by
  unfold sameT
  have hj1 := (List.getElem?_eq_some_iff.1 hp)
  have hj2 := (List.getElem?_eq_some_iff.1 hq)
  obtain ⟨a1, a2⟩ := hj1
  obtain ⟨c1, c2⟩ := hj2
  have : ((ps.zip qs).all fun x => sameP x.1 x.2) = false := by
    rw [List.all_eq_false]
    refine ⟨(p, q), ?_, by simp [h3]⟩
    rw [List.mem_iff_getElem]
    exact ⟨j, by simp; omega, by rw [List.getElem_zip, a2, c2]⟩
  rw [this]; simp
theorem sameS_next {ps qs : List GP} {i : Nat} {p q : GP} (h : ∀ j p q, j < i → ps[j]? = some p → qs[j]? = some q → sameP p q = true) (hp : ps[i]? = some p) (hq : qs[i]? = some q) (h2 : sameP p q = true) : ∀ j p q, j < i + 1 → ps[j]? = some p → qs[j]? = some q → sameP p q = true := fun j p' q' hj h1 h3 => by
  rcases Nat.lt_or_ge j i with h4 | h4
  · exact h j p' q' h4 h1 h3
  · obtain rfl : j = i := by omega
    rw [hp] at h1; rw [hq] at h3
    cases h1; cases h3; exact h2
/-- The identifier of an entry that is not in use. -/
def zG : List UInt8 := [48, 48, 48, 48, 48, 48, 48, 48, 45, 48, 48, 48, 48, 45, 48, 48, 48, 48, 45, 48, 48, 48, 48, 45, 48, 48, 48, 48, 48, 48, 48, 48, 48, 48, 48, 48]
def keepP (ps : List GP) : List GP := ps.filter fun p => !(sameG p.ty zG)
theorem keepP_t {ps : List GP} {i : Nat} {p : GP} (h : ps[i]? = some p) (h2 : sameG p.ty zG = false) : keepP (ps.take (i + 1)) = keepP (ps.take i) ++ [p] := by
  unfold keepP
  rw [take_succ_get h, List.filter_append]
  simp [h2]
theorem keepP_f {ps : List GP} {i : Nat} {p : GP} (h : ps[i]? = some p) (h2 : sameG p.ty zG = true) : keepP (ps.take (i + 1)) = keepP (ps.take i) := by
  unfold keepP
  rw [take_succ_get h, List.filter_append]
  simp [h2]
theorem keepP_le (ps : List GP) : (keepP ps).length ≤ ps.length := List.length_filter_le _ _
/-- The small table of the statements. -/
def gS : List UInt8 := [52, 51, 69, 53, 49, 56, 57, 50, 45, 51, 50, 55, 51, 45, 52, 50, 70, 55, 45, 66, 67, 68, 65, 45, 66, 52, 51, 66, 56, 48, 67, 68, 70, 67, 52, 56]
def pS : GP := ⟨1, 40, 49, 5120, [48, 70, 67, 54, 51, 68, 65, 70, 45, 56, 52, 56, 51, 45, 52, 55, 55, 50, 45, 56, 69, 55, 57, 45, 51, 68, 54, 57, 68, 56, 52, 55, 55, 68, 69, 52], [97], [48, 48, 48, 48, 48, 48, 48, 48, 45, 48, 48, 48, 48, 45, 48, 48, 48, 48, 45, 48, 48, 48, 48, 45, 48, 48, 48, 48, 48, 48, 48, 48, 48, 48, 65, 49], 0⟩
theorem pS_ok : pS.ok := ⟨by decide, by decide, by decide, by decide, by decide⟩
end Go.Proofs.YthcaejaaalkglaaGreatDoor.X

/- Walks of functions, printed by a program of this claim. -/
namespace Go.Proofs.YthcaejaaalkglaaGreatDoor.X
set_option linter.unusedVariables false
set_option linter.unusedSimpArgs false
open Go Go.RowKit

namespace PF
theorem bo24 : buildOK Tryz.prog 24 = true := by kernel_rfl
theorem bo54 : buildOK Tryz.prog 54 = true := by kernel_rfl
theorem fo106_3 : fieldOff Tryz.prog 106 3 = some 3 := by kernel_rfl
theorem fo126_0 : fieldOff Tryz.prog 126 0 = some 0 := by kernel_rfl
theorem fo126_4 : fieldOff Tryz.prog 126 4 = some 4 := by kernel_rfl
theorem fo126_5 : fieldOff Tryz.prog 126 5 = some 5 := by kernel_rfl
theorem fo126_6 : fieldOff Tryz.prog 126 6 = some 6 := by kernel_rfl
theorem fo126_7 : fieldOff Tryz.prog 126 7 = some 7 := by kernel_rfl
theorem pl24_1 : placeOf Tryz.prog 24 1 = some (1, 1) := by kernel_rfl
theorem pl24_2 : placeOf Tryz.prog 24 2 = some (2, 1) := by kernel_rfl
theorem pl24_3 : placeOf Tryz.prog 24 3 = some (3, 1) := by kernel_rfl
theorem pl24_4 : placeOf Tryz.prog 24 4 = some (4, 1) := by kernel_rfl
theorem pl54_0 : placeOf Tryz.prog 54 0 = some (0, 1) := by kernel_rfl
theorem pl54_1 : placeOf Tryz.prog 54 1 = some (1, 1) := by kernel_rfl
theorem pl54_2 : placeOf Tryz.prog 54 2 = some (2, 1) := by kernel_rfl
theorem pl54_3 : placeOf Tryz.prog 54 3 = some (3, 1) := by kernel_rfl
theorem pl54_4 : placeOf Tryz.prog 54 4 = some (4, 1) := by kernel_rfl
theorem pl54_5 : placeOf Tryz.prog 54 5 = some (5, 1) := by kernel_rfl
theorem pl54_6 : placeOf Tryz.prog 54 6 = some (6, 1) := by kernel_rfl
theorem pl54_7 : placeOf Tryz.prog 54 7 = some (7, 1) := by kernel_rfl
theorem ri54 : rowInfo Tryz.prog 54 = some ([.int .i64 0, .int .u64 0, .int .u64 0, .int .u64 0, .string ⟨#[]⟩, .string ⟨#[]⟩, .string ⟨#[]⟩, .int .u64 0], 88) := by kernel_rfl
theorem sc123 : scalarB Tryz.prog 123 = true := by kernel_rfl
theorem sc124 : scalarB Tryz.prog 124 = true := by kernel_rfl
theorem ze24 : zeroL Tryz.prog 24 = some [.slice none 0 0, .int .i64 0, .string ⟨#[]⟩, .bool false, .bool false] := by kernel_rfl
end PF
open PF

set_option maxRecDepth 100000 in
set_option maxHeartbeats 1000000 in
theorem c_told (w : World) (p : Nat) (D : Option Addr) (cap : Nat) (l : PL) (qs : List GP) (g : List UInt8) (pr rb ini : Bool) (cnt esz frm crc my oth fi lx : Int) (hp : w.heap[p]? = some (.cells (tbC D l.length cap 512 512 g pr rb cnt esz frm crc my oth fi lx ini).toArray 106 (0, 0))) (hr : PR 126 w D l) (hl : l.map Prod.snd = qs.map pc) (hm : l.length ≤ 200) : Calls Tryz.prog 38 #[.pointer (some ⟨p, 0, none⟩)] w (Ret fun v w' => ∃ D2 cap2, v = .agg (gtCells D2 l.length cap2 512 g pr rb).toArray ∧ OR 54 8 w [] w' [] D2 l.length cap2 (qs.flatMap GP.cells)) := by
 refine enterR [.cell 2 24] Tryz.func38 rfl rfl rfl rfl ?_
 have H := SH.nil w
 have hql : qs.length = l.length := by have := congrArg List.length hl; simpa using this.symm
 have t0 : w.cell? ⟨p, 0, none⟩ = some (.slice D l.length cap) := cell_at hp
 have t1 : w.cell? ⟨p, 1, none⟩ = some (.int .i64 512) := cell_at hp
 have t3 : w.cell? ⟨p, 3, none⟩ = some (.string (str g)) := cell_at hp
 have t4 : w.cell? ⟨p, 4, none⟩ = some (.bool pr) := cell_at hp
 have t5 : w.cell? ⟨p, 5, none⟩ = some (.bool rb) := cell_at hp
 refine sq ?_
 refine rg ?_
 refine al H ze24 rfl ?_
 clear H; intro b1 w1 hb1 H _
 refine nl ?_
 refine then_n ?_
 refine sq ?_
 refine dr (by kernel_rfl) ?_
 have H := H.drew
 refine hold (fun _ => True) [] ?_
 refine tk (i := 0) rfl (by kernel_rfl) rfl trivial (fun _ _ => r_mv (v := .pointer _) rfl) ?_
 refine tk (i := 1) rfl (by kernel_rfl) rfl trivial (fun _ _ => r_nc rfl) ?_
 refine tk (i := 2) rfl (by kernel_rfl) rfl trivial (fun _ _ => r_fa rfl fo106_1) ?_
 refine tk (i := 4) rfl (by kernel_rfl) rfl trivial (fun _ _ => r_mv (v := .pointer _) rfl) ?_
 refine tk (i := 5) rfl (by kernel_rfl) rfl trivial (fun _ _ => r_nc rfl) ?_
 refine tk (i := 6) rfl (by kernel_rfl) rfl trivial (fun _ _ => r_fa rfl fo106_3) ?_
 refine tk (i := 8) rfl (by kernel_rfl) rfl trivial (fun _ _ => r_mv (v := .pointer _) rfl) ?_
 refine tk (i := 9) rfl (by kernel_rfl) rfl trivial (fun _ _ => r_nc rfl) ?_
 refine tk (i := 10) rfl (by kernel_rfl) rfl trivial (fun _ _ => r_fa rfl fo106_4) ?_
 refine tk (i := 12) rfl (by kernel_rfl) rfl trivial (fun _ _ => r_mv (v := .pointer _) rfl) ?_
 refine tk (i := 13) rfl (by kernel_rfl) rfl trivial (fun _ _ => r_nc rfl) ?_
 refine tk (i := 14) rfl (by kernel_rfl) rfl trivial (fun _ _ => r_fa rfl fo106_5) ?_
 refine unfree ?_
 refine holdH H [18] ?_
 refine tk (i := 3) rfl (by kernel_rfl) rfl H (fun w' H => r_lc rfl (by first | assumption | exact H.fr.cell (by assumption) (by simp)) sc3) ?_
 refine tk (i := 7) rfl (by kernel_rfl) rfl H (fun w' H => r_lc rfl (by first | assumption | exact H.fr.cell (by assumption) (by simp)) sc9) ?_
 refine tk (i := 11) rfl (by kernel_rfl) rfl H (fun w' H => r_lc rfl (by first | assumption | exact H.fr.cell (by assumption) (by simp)) sc4) ?_
 refine tk (i := 15) rfl (by kernel_rfl) rfl H (fun w' H => r_lc rfl (by first | assumption | exact H.fr.cell (by assumption) (by simp)) sc4) ?_
 refine tkbu (out := ?o1) (i := 16) rfl (by kernel_rfl) rfl H ze24 bo24 ?f1 ?_
 case f1 =>
  refine FL.one (v := .int .i64 _) rfl pl24_1 rfl (by first | decide | simp) ?_
  refine FL.one (v := .string _) rfl pl24_2 rfl (by first | decide | simp) ?_
  refine FL.one (v := .bool _) rfl pl24_3 rfl (by first | decide | simp) ?_
  refine FL.one (v := .bool _) rfl pl24_4 rfl (by first | decide | simp) ?_
  exact FL.nil
 refine fk (i := 17) (by kernel_rfl) rfl rfl rfl ?_
 refine al H ze24 rfl ?_
 clear H; intro b2 w2 hb2 H _
 refine nl ?_
 refine then_n ?_
 refine ⟨H.drop, ?_⟩
 refine fb (i := 18) (by kernel_rfl) rfl rfl rfl ?_
 refine sa H rfl rfl ag24_5 rfl rfl (by decide) (by omega) rfl ?_
 clear H; intro w3 H _
 refine nl ?_
 refine then_n ?_
 refine dn (by kernel_rfl) ?_
 refine then_n ?_
 refine sq ?_
 refine sq ?_
 refine rg ?_
 refine mv (v := .pointer _) rfl rfl ?_
 refine nc rfl rfl ?_
 refine fa rfl fo106_0 rfl ?_
 refine lc rfl (by first | assumption | exact H.fr.cell (by assumption) (by simp)) sc104 rfl ?_
 refine lnS rfl Tryz.underlying104 rfl ?_
 refine mv (v := .int .i64 _) rfl rfl ?_
 refine nl ?_
 refine then_n ?_
 refine bk ?_
 refine lpM (α := Nat × Option Addr × Nat) [5, 28, 29, 30, 31, 32, 33, 34, 35, 36, 37, 38, 39, 40, 41, 42, 43, 44, 45, 46, 47, 48, 49, 50, 51, 52, 53, 54, 55, 56, 57, 58, 59, 60, 61, 62, 63, 64, 65, 66, 67, 68, 69, 70] (fun (i, D2, cap2) => [(28, .int .i64 (i : Int))]) (fun (i, D2, cap2) w' => i ≤ l.length ∧ OR 54 8 w [] w' [⟨b2, .cells (gtCells D2 i cap2 512 g pr rb).toArray 24 (0, 0), true⟩, ⟨b1, .cells (gtCells none 0 0 0 [] false false).toArray 24 (0, 0), true⟩] D2 i cap2 ((qs.take i).flatMap GP.cells)) (fun (i, D2, cap2) => l.length - i) (0, none, 0) ?_ (fC (by first | rfl | exact congrArg (Value.int _) (by first | omega | assumption | (symm; assumption) | (simp; done) | (simp; omega)) | exact congrArg (fun n => Value.slice _ n _) (by first | omega | (simp; done) | (simp; omega))) (fN _)) ?_
 ·exact ⟨by omega, OR.nil H⟩
 ·rintro ⟨i, D2, cap2⟩ ρx w4 ⟨hi, O⟩
  have H := O.sh
  refine sq ?_
  refine rg ?_
  refine lss rfl rfl rfl ?_
  refine nl ?_
  refine then_n ?_
  refine sq ?_
  refine cd rfl (fun hc1 => ?_) (fun hc1 => ?_)
  ·obtain ⟨x, hx⟩ : ∃ x, l[i]? = some x := ⟨_, List.getElem?_eq_getElem (by omega)⟩
   obtain ⟨q, hq⟩ : ∃ q, qs[i]? = some q := ⟨_, List.getElem?_eq_getElem (by omega)⟩
   obtain ⟨ad, rfl, hx1, hx2⟩ := hr i x hx
   have hxq : x.2 = pc q := by
    have e := congrArg (fun m => m[i]?) hl
    simpa [hx, hq] using e
   rw [hxq] at hx2
   have k0 : w.cell? ⟨x.1, 0, none⟩ = some (.int .i64 q.ix) := cell_at hx2
   have k1 : w.cell? ⟨x.1, 1, none⟩ = some (.int .u64 q.st) := cell_at hx2
   have k2 : w.cell? ⟨x.1, 2, none⟩ = some (.int .u64 q.en) := cell_at hx2
   have k3 : w.cell? ⟨x.1, 3, none⟩ = some (.int .u64 q.sz) := cell_at hx2
   have k4 : w.cell? ⟨x.1, 4, none⟩ = some (.string (str q.ty)) := cell_at hx2
   have k5 : w.cell? ⟨x.1, 5, none⟩ = some (.string (str q.nm)) := cell_at hx2
   have k6 : w.cell? ⟨x.1, 6, none⟩ = some (.string (str q.gu)) := cell_at hx2
   have k7 : w.cell? ⟨x.1, 7, none⟩ = some (.int .u64 q.att) := cell_at hx2
   refine sk ?_
   refine then_n ?_
   refine sq ?_
   refine bk ?_
   refine sq ?_
   refine rg ?_
   refine iA rfl rfl Tryz.underlying104 sz123_1 (by omega) rfl ?_
   refine lc rfl (by first | assumption | exact H.fr.cell (by assumption) (by simp)) sc123 rfl ?_
   refine asg (v := .pointer _) rfl rfl ?_
   refine nl ?_
   refine then_n ?_
   refine dr (by kernel_rfl) ?_
   have H := H.drew
   replace O := O.drew
   refine hold (fun w' => SH w [] w' [⟨b2, .cells (gtCells D2 i cap2 512 g pr rb).toArray 24 (0, 0), true⟩, ⟨b1, .cells (gtCells none 0 0 0 [] false false).toArray 24 (0, 0), true⟩]) [38] ?_
   refine tk (i := 0) rfl (by kernel_rfl) rfl (H.sub (by repeat (first | exact List.Sublist.refl _ | exact List.nil_sublist _ | apply List.Sublist.cons_cons | apply List.Sublist.cons))) (fun w' H => r_fa rfl fo24_0) ?_
   refine tk (i := 1) rfl (by kernel_rfl) rfl (H.sub (by repeat (first | exact List.Sublist.refl _ | exact List.nil_sublist _ | apply List.Sublist.cons_cons | apply List.Sublist.cons))) (fun w' H => r_ld H rfl sc22 rfl) ?_
   refine tk (i := 2) rfl (by kernel_rfl) rfl (H.sub (by repeat (first | exact List.Sublist.refl _ | exact List.nil_sublist _ | apply List.Sublist.cons_cons | apply List.Sublist.cons))) (fun w' H => r_mv (v := .pointer _) rfl) ?_
   refine tk (i := 3) rfl (by kernel_rfl) rfl (H.sub (by repeat (first | exact List.Sublist.refl _ | exact List.nil_sublist _ | apply List.Sublist.cons_cons | apply List.Sublist.cons))) (fun w' H => r_nc rfl) ?_
   refine tk (i := 4) rfl (by kernel_rfl) rfl (H.sub (by repeat (first | exact List.Sublist.refl _ | exact List.nil_sublist _ | apply List.Sublist.cons_cons | apply List.Sublist.cons))) (fun w' H => r_fa rfl fo126_0) ?_
   refine tk (i := 5) rfl (by kernel_rfl) rfl (H.sub (by repeat (first | exact List.Sublist.refl _ | exact List.nil_sublist _ | apply List.Sublist.cons_cons | apply List.Sublist.cons))) (fun w' H => r_lc rfl (by first | assumption | exact H.fr.cell (by assumption) (by simp)) sc3) ?_
   refine tk (i := 6) rfl (by kernel_rfl) rfl (H.sub (by repeat (first | exact List.Sublist.refl _ | exact List.nil_sublist _ | apply List.Sublist.cons_cons | apply List.Sublist.cons))) (fun w' H => r_mv (v := .pointer _) rfl) ?_
   refine tk (i := 7) rfl (by kernel_rfl) rfl (H.sub (by repeat (first | exact List.Sublist.refl _ | exact List.nil_sublist _ | apply List.Sublist.cons_cons | apply List.Sublist.cons))) (fun w' H => r_nc rfl) ?_
   refine tk (i := 8) rfl (by kernel_rfl) rfl (H.sub (by repeat (first | exact List.Sublist.refl _ | exact List.nil_sublist _ | apply List.Sublist.cons_cons | apply List.Sublist.cons))) (fun w' H => r_fa rfl fo126_1) ?_
   refine tk (i := 9) rfl (by kernel_rfl) rfl (H.sub (by repeat (first | exact List.Sublist.refl _ | exact List.nil_sublist _ | apply List.Sublist.cons_cons | apply List.Sublist.cons))) (fun w' H => r_lc rfl (by first | assumption | exact H.fr.cell (by assumption) (by simp)) sc28) ?_
   refine tk (i := 10) rfl (by kernel_rfl) rfl (H.sub (by repeat (first | exact List.Sublist.refl _ | exact List.nil_sublist _ | apply List.Sublist.cons_cons | apply List.Sublist.cons))) (fun w' H => r_mv (v := .pointer _) rfl) ?_
   refine tk (i := 11) rfl (by kernel_rfl) rfl (H.sub (by repeat (first | exact List.Sublist.refl _ | exact List.nil_sublist _ | apply List.Sublist.cons_cons | apply List.Sublist.cons))) (fun w' H => r_nc rfl) ?_
   refine tk (i := 12) rfl (by kernel_rfl) rfl (H.sub (by repeat (first | exact List.Sublist.refl _ | exact List.nil_sublist _ | apply List.Sublist.cons_cons | apply List.Sublist.cons))) (fun w' H => r_fa rfl fo126_2) ?_
   refine tk (i := 13) rfl (by kernel_rfl) rfl (H.sub (by repeat (first | exact List.Sublist.refl _ | exact List.nil_sublist _ | apply List.Sublist.cons_cons | apply List.Sublist.cons))) (fun w' H => r_lc rfl (by first | assumption | exact H.fr.cell (by assumption) (by simp)) sc28) ?_
   refine tk (i := 14) rfl (by kernel_rfl) rfl (H.sub (by repeat (first | exact List.Sublist.refl _ | exact List.nil_sublist _ | apply List.Sublist.cons_cons | apply List.Sublist.cons))) (fun w' H => r_mv (v := .pointer _) rfl) ?_
   refine tk (i := 15) rfl (by kernel_rfl) rfl (H.sub (by repeat (first | exact List.Sublist.refl _ | exact List.nil_sublist _ | apply List.Sublist.cons_cons | apply List.Sublist.cons))) (fun w' H => r_nc rfl) ?_
   refine tk (i := 16) rfl (by kernel_rfl) rfl (H.sub (by repeat (first | exact List.Sublist.refl _ | exact List.nil_sublist _ | apply List.Sublist.cons_cons | apply List.Sublist.cons))) (fun w' H => r_fa rfl fo126_3) ?_
   refine tk (i := 17) rfl (by kernel_rfl) rfl (H.sub (by repeat (first | exact List.Sublist.refl _ | exact List.nil_sublist _ | apply List.Sublist.cons_cons | apply List.Sublist.cons))) (fun w' H => r_lc rfl (by first | assumption | exact H.fr.cell (by assumption) (by simp)) sc28) ?_
   refine tk (i := 18) rfl (by kernel_rfl) rfl (H.sub (by repeat (first | exact List.Sublist.refl _ | exact List.nil_sublist _ | apply List.Sublist.cons_cons | apply List.Sublist.cons))) (fun w' H => r_mv (v := .pointer _) rfl) ?_
   refine tk (i := 19) rfl (by kernel_rfl) rfl (H.sub (by repeat (first | exact List.Sublist.refl _ | exact List.nil_sublist _ | apply List.Sublist.cons_cons | apply List.Sublist.cons))) (fun w' H => r_nc rfl) ?_
   refine tk (i := 20) rfl (by kernel_rfl) rfl (H.sub (by repeat (first | exact List.Sublist.refl _ | exact List.nil_sublist _ | apply List.Sublist.cons_cons | apply List.Sublist.cons))) (fun w' H => r_fa rfl fo126_4) ?_
   refine tk (i := 21) rfl (by kernel_rfl) rfl (H.sub (by repeat (first | exact List.Sublist.refl _ | exact List.nil_sublist _ | apply List.Sublist.cons_cons | apply List.Sublist.cons))) (fun w' H => r_lc rfl (by first | assumption | exact H.fr.cell (by assumption) (by simp)) sc124) ?_
   refine tk (i := 22) rfl (by kernel_rfl) rfl (H.sub (by repeat (first | exact List.Sublist.refl _ | exact List.nil_sublist _ | apply List.Sublist.cons_cons | apply List.Sublist.cons))) (fun w' H => r_mv (v := .pointer _) rfl) ?_
   refine tk (i := 23) rfl (by kernel_rfl) rfl (H.sub (by repeat (first | exact List.Sublist.refl _ | exact List.nil_sublist _ | apply List.Sublist.cons_cons | apply List.Sublist.cons))) (fun w' H => r_nc rfl) ?_
   refine tk (i := 24) rfl (by kernel_rfl) rfl (H.sub (by repeat (first | exact List.Sublist.refl _ | exact List.nil_sublist _ | apply List.Sublist.cons_cons | apply List.Sublist.cons))) (fun w' H => r_fa rfl fo126_5) ?_
   refine tk (i := 25) rfl (by kernel_rfl) rfl (H.sub (by repeat (first | exact List.Sublist.refl _ | exact List.nil_sublist _ | apply List.Sublist.cons_cons | apply List.Sublist.cons))) (fun w' H => r_lc rfl (by first | assumption | exact H.fr.cell (by assumption) (by simp)) sc9) ?_
   refine tk (i := 26) rfl (by kernel_rfl) rfl (H.sub (by repeat (first | exact List.Sublist.refl _ | exact List.nil_sublist _ | apply List.Sublist.cons_cons | apply List.Sublist.cons))) (fun w' H => r_mv (v := .pointer _) rfl) ?_
   refine tk (i := 27) rfl (by kernel_rfl) rfl (H.sub (by repeat (first | exact List.Sublist.refl _ | exact List.nil_sublist _ | apply List.Sublist.cons_cons | apply List.Sublist.cons))) (fun w' H => r_nc rfl) ?_
   refine tk (i := 28) rfl (by kernel_rfl) rfl (H.sub (by repeat (first | exact List.Sublist.refl _ | exact List.nil_sublist _ | apply List.Sublist.cons_cons | apply List.Sublist.cons))) (fun w' H => r_fa rfl fo126_6) ?_
   refine tk (i := 29) rfl (by kernel_rfl) rfl (H.sub (by repeat (first | exact List.Sublist.refl _ | exact List.nil_sublist _ | apply List.Sublist.cons_cons | apply List.Sublist.cons))) (fun w' H => r_lc rfl (by first | assumption | exact H.fr.cell (by assumption) (by simp)) sc9) ?_
   refine tk (i := 30) rfl (by kernel_rfl) rfl (H.sub (by repeat (first | exact List.Sublist.refl _ | exact List.nil_sublist _ | apply List.Sublist.cons_cons | apply List.Sublist.cons))) (fun w' H => r_mv (v := .pointer _) rfl) ?_
   refine tk (i := 31) rfl (by kernel_rfl) rfl (H.sub (by repeat (first | exact List.Sublist.refl _ | exact List.nil_sublist _ | apply List.Sublist.cons_cons | apply List.Sublist.cons))) (fun w' H => r_nc rfl) ?_
   refine tk (i := 32) rfl (by kernel_rfl) rfl (H.sub (by repeat (first | exact List.Sublist.refl _ | exact List.nil_sublist _ | apply List.Sublist.cons_cons | apply List.Sublist.cons))) (fun w' H => r_fa rfl fo126_7) ?_
   refine tk (i := 33) rfl (by kernel_rfl) rfl (H.sub (by repeat (first | exact List.Sublist.refl _ | exact List.nil_sublist _ | apply List.Sublist.cons_cons | apply List.Sublist.cons))) (fun w' H => r_lc rfl (by first | assumption | exact H.fr.cell (by assumption) (by simp)) sc28) ?_
   refine tkbu (out := ?o2) (i := 34) rfl (by kernel_rfl) rfl (H.sub (by repeat (first | exact List.Sublist.refl _ | exact List.nil_sublist _ | apply List.Sublist.cons_cons | apply List.Sublist.cons))) ze54 bo54 ?f2 ?_
   case f2 =>
    refine FL.one (v := .int .i64 _) rfl pl54_0 rfl (by first | decide | simp) ?_
    refine FL.one (v := .int .u64 _) rfl pl54_1 rfl (by first | decide | simp) ?_
    refine FL.one (v := .int .u64 _) rfl pl54_2 rfl (by first | decide | simp) ?_
    refine FL.one (v := .int .u64 _) rfl pl54_3 rfl (by first | decide | simp) ?_
    refine FL.one (v := .string _) rfl pl54_4 rfl (by first | decide | simp) ?_
    refine FL.one (v := .string _) rfl pl54_5 rfl (by first | decide | simp) ?_
    refine FL.one (v := .string _) rfl pl54_6 rfl (by first | decide | simp) ?_
    refine FL.one (v := .int .u64 _) rfl pl54_7 rfl (by first | decide | simp) ?_
    exact FL.nil
   refine fk (i := 35) (by kernel_rfl) rfl rfl rfl ?_
   refine bsl (sz := 8) (out := ?o3) H Tryz.underlying22 ze54 sz54_8 (by decide) ?f3 rfl ?_
   case f3 =>
    refine FS.agg (vs := _) rfl rfl (by first | decide | simp) ?_
    exact FS.nil
   intro b3 w5 hb3 H1 F; replace O := O.new F hb3 H1.look; clear H H1 F; have H := O.sh
   refine nl ?_
   refine then_n ?_
   refine ⟨H.sub (by repeat (first | exact List.Sublist.refl _ | exact List.nil_sublist _ | apply List.Sublist.cons_cons | apply List.Sublist.cons)), ?_⟩
   refine fk (i := 36) (by kernel_rfl) rfl rfl rfl ?_
   refine apO (zs := [.int .i64 0, .int .u64 0, .int .u64 0, .int .u64 0, .string ⟨#[]⟩, .string ⟨#[]⟩, .string ⟨#[]⟩, .int .u64 0]) q.cells O rfl rfl Tryz.underlying22 ri54 (by first | rfl | simp) (cells_look H.look) (List.all_eq_true.1 q.cells_one) (by simp) (by omega) (by unfold maxLen; omega) rfl ?_
   clear O H; intro D9 cp9 w6 O
   replace O := O.drop; have H := O.sh
   refine nl ?_
   refine then_n ?_
   refine ⟨H.sub (by repeat (first | exact List.Sublist.refl _ | exact List.nil_sublist _ | apply List.Sublist.cons_cons | apply List.Sublist.cons)), ?_⟩
   refine tk (i := 37) rfl (by kernel_rfl) rfl (H.sub (by repeat (first | exact List.Sublist.refl _ | exact List.nil_sublist _ | apply List.Sublist.cons_cons | apply List.Sublist.cons))) (fun w' H => r_fa rfl fo24_0) ?_
   refine fb (i := 38) (by kernel_rfl) rfl rfl rfl ?_
   refine st (v := .slice _ _ _) H rfl rfl sc22 rfl (by show 0 + 0 < 5; decide) (by omega) ?_
   intro w95 H1 F; replace O := O.put F H1.look; clear H H1 F; have H := O.sh
   refine nl ?_
   refine then_n ?_
   refine dn (by kernel_rfl) ?_
   refine in_n ?_
   refine then_n ?_
   refine rg ?_
   refine add rfl rfl (by first | exact w_i64 (by omega) | exact w_i64 (rng_i64 _) | rfl) rfl ?_
   refine mv (v := .int .i64 _) rfl rfl ?_
   refine nl ?_
   refine loop_n ?_
   exact ⟨(i + 1, D9, cp9), (by (try dsimp only); omega), ⟨by omega, by rw [take_succ_get hq, List.flatMap_append]; exact O⟩, (fC (by first | rfl | exact congrArg (Value.int _) (by first | omega | assumption | (symm; assumption) | (simp; done) | (simp; omega)) | exact congrArg (fun n => Value.slice _ n _) (by first | omega | (simp; done) | (simp; omega))) (fN _)), (by repeat (first | exact Agree.setL rfl Agree.mask | exact Agree.self _ _ | refine Agree.upd rfl ?_ | refine Agree.setL rfl ?_ | refine Agree.mask2 rfl ?_))⟩
  ·refine ex ?_
   refine then_e ?_
   refine loop_e ?_
   refine in_hit rfl ?_
   refine then_n ?_
   refine sq ?_
   refine rg ?_
   refine la (vs := gtCells D2 i cap2 512 g pr rb) H rfl ag24_5 rfl rfl rfl ?_
   refine sa (cs' := gtCells D2 i cap2 512 g pr rb) H rfl rfl ag24_5 rfl rfl (by show 0 + 5 ≤ 5; decide) (by omega) rfl ?_
   intro w96 H96 F96; replace O := O.put F96 H96.look; clear H H96 F96; have H := O.sh
   refine nl ?_
   refine then_n ?_
   refine rt ?_
   refine finR_r ?_
   obtain rfl : i = l.length := by omega
   rw [List.take_of_length_le (by omega)] at O
   exact ⟨[_], ⟨finC rfl (H.look (b := b1)) ag24_5, trivial⟩, _, _, rfl, O.sub (List.nil_sublist _)⟩

end Go.Proofs.YthcaejaaalkglaaGreatDoor.X

/- Walks of functions, printed by a program of this claim. -/
namespace Go.Proofs.YthcaejaaalkglaaGreatDoor.X
set_option linter.unusedVariables false
set_option linter.unusedSimpArgs false
open Go Go.RowKit

namespace PF
theorem ca30 : callable Tryz.prog 30 = true := by kernel_rfl
theorem ca31 : callable Tryz.prog 31 = true := by kernel_rfl
theorem ca38 : callable Tryz.prog 38 = true := by kernel_rfl
end PF
open PF

set_option maxRecDepth 100000 in
set_option maxHeartbeats 1000000 in
theorem c_implGptRead (w : World) (B : Option Addr) (n c : Nat) (ds : List UInt8) (hR : RB w B n ds) (hL : 34816 ≤ n ∧ n ≤ 10000000) (b f : Nat) (hLb : n = 512 * (b + 1)) (hf : 512 * f + 16384 ≤ n) (hcan1 : hdrGood ds 512 = true → fld ds 584 8 = 2 ∧ fld ds 592 4 = 128 ∧ fld ds 596 4 = 128) (hcan2 : hdrGood ds (512 * b) = true → fld ds (512 * b + 72) 8 = (f : Int) ∧ fld ds (512 * b + 80) 4 = 128 ∧ fld ds (512 * b + 84) 4 = 128) (hfit1 : fitsB ds 512 512 = true) (hfit2 : fitsB ds 512 (512 * b) = true) : Calls Tryz.prog 17 #[.slice B n c, .int .i64 512] w (Ret fun v w' => Fr [] w w' ∧ ∃ v1, v = .tuple #[v1, .bool ((hdrGood ds 512 && decide (fld ds 600 4 = crc32 (pcs ds 1024 16384))) || (hdrGood ds (512 * b) && decide (fld ds (512 * b + 24) 8 = (b : Int)) && decide (fld ds (512 * b + 88) 4 = crc32 (pcs ds (512 * f) 16384))))] ∧ ((hdrGood ds 512 && decide (fld ds 600 4 = crc32 (pcs ds 1024 16384))) = true → ∃ D2 cap2, v1 = .agg (gtCells D2 (usedP (pcs ds 1024 16384) 128).length cap2 512 (gT (pcs ds 568 16)) (protB (pcs ds 0 512) (fld ds 544 8 % 4294967296)) false).toArray ∧ OR 54 8 w [] w' [] D2 (usedP (pcs ds 1024 16384) 128).length cap2 ((usedP (pcs ds 1024 16384) 128).flatMap GP.cells)) ∧ ((hdrGood ds 512 && decide (fld ds 600 4 = crc32 (pcs ds 1024 16384))) = false → (hdrGood ds (512 * b) && decide (fld ds (512 * b + 24) 8 = (b : Int)) && decide (fld ds (512 * b + 88) 4 = crc32 (pcs ds (512 * f) 16384))) = true → ∃ D2 cap2, v1 = .agg (gtCells D2 (usedP (pcs ds (512 * f) 16384) 128).length cap2 512 (gT (pcs ds (512 * b + 56) 16)) (protB (pcs ds 0 512) ((fld ds (512 * b + 24) 8) % 4294967296)) true).toArray ∧ OR 54 8 w [] w' [] D2 (usedP (pcs ds (512 * f) 16384) 128).length cap2 ((usedP (pcs ds (512 * f) 16384) 128).flatMap GP.cells)) ∧ ((hdrGood ds 512 && decide (fld ds 600 4 = crc32 (pcs ds 1024 16384))) = false → (hdrGood ds (512 * b) && decide (fld ds (512 * b + 24) 8 = (b : Int)) && decide (fld ds (512 * b + 88) 4 = crc32 (pcs ds (512 * f) 16384))) = false → v1 = .agg (gtCells none 0 0 0 [] false false).toArray)) := by
 refine enterR [.cell 4 24, .tmp 5] Tryz.func17 rfl rfl rfl rfl ?_
 have H := SH.nil w
 have hdl := hR.1
 refine sq ?_
 refine rg ?_
 refine al H ze24 rfl ?_
 clear H; intro b1 w1 hb1 H _
 refine asg (v := .bool _) rfl rfl ?_
 refine nl ?_
 refine then_n ?_
 refine sq ?_
 refine rg ?_
 refine mv (v := .slice _ _ _) rfl rfl ?_
 refine cvBS rfl (by exact hR.keep H.fr) Tryz.underlying30 Tryz.underlying5 Tryz.underlying9 rfl ?_
 refine cl ca30 (c_memoryOf _ ds (by omega)) rfl ?_
 rintro _ w2 ⟨bm, bd, cm, rfl, hcm, K⟩
 replace H := H.join K (by simp); simp only [List.cons_append, List.nil_append] at H; clear K
 refine mv (v := .int .i64 _) rfl rfl ?_
 refine cl ca31 (c_implRead _ bm bd ds.length cm _ _ _ ds (H.look (b := bm)) (RB.pre H) (H.ne_of rfl (y := ⟨bd, _, true⟩) (by repeat (first | exact .head _ | apply List.Mem.tail))) (by omega) hcm b f (by omega) (by omega) hcan1 hcan2 hfit1 hfit2) rfl ?_
 rintro _ w3 ⟨F, ⟨x9, hm9⟩, A9, rfl, hr1, hr2⟩
 replace H := H.put (b := bm) F hm9
 refine mv (v := .tuple _) rfl rfl ?_
 refine xt rfl rfl rfl ?_
 refine xt rfl rfl rfl ?_
 refine asg (v := .pointer _) rfl rfl ?_
 refine asg (v := .bool _) rfl rfl ?_
 refine nl ?_
 refine then_n ?_
 refine sq ?_
 refine sq ?_
 refine rg ?_
 refine mv (v := .bool _) rfl rfl ?_
 refine unot rfl rfl ?_
 refine nl ?_
 refine then_n ?_
 refine cn rfl (fun hc1 => ?_) (fun hc1 => ?_)
 ·have hgg : ((hdrGood ds 512 && decide (fld ds 600 4 = crc32 (pcs ds 1024 16384))) || (hdrGood ds (512 * b) && decide (fld ds (512 * b + 24) 8 = (b : Int)) && decide (fld ds (512 * b + 88) 4 = crc32 (pcs ds (512 * f) 16384)))) = false := by have h8 : (!((hdrGood ds 512 && decide (fld ds 600 4 = crc32 (pcs ds 1024 16384))) || (hdrGood ds (512 * b) && decide (fld ds (512 * b + 24) 8 = (b : Int)) && decide (fld ds (512 * b + 88) 4 = crc32 (pcs ds (512 * f) 16384))))) = true := hc1; cases hq : ((hdrGood ds 512 && decide (fld ds 600 4 = crc32 (pcs ds 1024 16384))) || (hdrGood ds (512 * b) && decide (fld ds (512 * b + 24) 8 = (b : Int)) && decide (fld ds (512 * b + 88) 4 = crc32 (pcs ds (512 * f) 16384)))) with | true => rw [hq] at h8; exact Bool.noConfusion h8 | false => rfl
  refine sq ?_
  refine rg ?_
  refine la H rfl ag24_5 rfl rfl rfl ?_
  refine sa H rfl rfl ag24_5 rfl rfl (by decide) (by omega) rfl ?_
  clear H; intro w4 H _
  refine asg (v := .bool _) rfl rfl ?_
  refine nl ?_
  refine then_n ?_
  refine rt ?_
  refine then_r ?_
  refine finR_r ?_
  exact ⟨[_, _], ⟨finC rfl (H.look (b := b1)) ag24_5, rfl, trivial⟩, H.fr, _, by rw [hgg]; rfl, fun h => by rw [h] at hgg; exact Bool.noConfusion hgg, fun h1 h2 => by rw [h1, h2] at hgg; exact Bool.noConfusion hgg, fun _ _ => rfl⟩
 ·have hgg : ((hdrGood ds 512 && decide (fld ds 600 4 = crc32 (pcs ds 1024 16384))) || (hdrGood ds (512 * b) && decide (fld ds (512 * b + 24) 8 = (b : Int)) && decide (fld ds (512 * b + 88) 4 = crc32 (pcs ds (512 * f) 16384)))) = true := by have h8 : (!((hdrGood ds 512 && decide (fld ds 600 4 = crc32 (pcs ds 1024 16384))) || (hdrGood ds (512 * b) && decide (fld ds (512 * b + 24) 8 = (b : Int)) && decide (fld ds (512 * b + 88) 4 = crc32 (pcs ds (512 * f) 16384))))) = false := hc1; cases hq : ((hdrGood ds 512 && decide (fld ds 600 4 = crc32 (pcs ds 1024 16384))) || (hdrGood ds (512 * b) && decide (fld ds (512 * b + 24) 8 = (b : Int)) && decide (fld ds (512 * b + 88) 4 = crc32 (pcs ds (512 * f) 16384)))) with | false => rw [hq] at h8; exact Bool.noConfusion h8 | true => rfl
  have hX : ∃ p D cap l qs g pr rb crc my oth fi lx f2, A9 = some ⟨p, 0, none⟩ ∧ l.map Prod.snd = qs.map pc ∧ l.length ≤ 128 ∧ w3.heap[p]? = some (.cells (tbC D l.length cap 512 512 g pr rb 128 128 f2 crc my oth fi lx true).toArray 106 (0, 0)) ∧ PR 126 w3 D l ∧ ((hdrGood ds 512 && decide (fld ds 600 4 = crc32 (pcs ds 1024 16384))) = true → g = gT (pcs ds 568 16) ∧ pr = protB (pcs ds 0 512) (fld ds 544 8 % 4294967296) ∧ rb = false ∧ qs = usedP (pcs ds 1024 16384) 128) ∧ ((hdrGood ds 512 && decide (fld ds 600 4 = crc32 (pcs ds 1024 16384))) = false → g = gT (pcs ds (512 * b + 56) 16) ∧ pr = protB (pcs ds 0 512) ((fld ds (512 * b + 24) 8) % 4294967296) ∧ rb = true ∧ qs = usedP (pcs ds (512 * f) 16384) 128) := by
   cases hq1 : (hdrGood ds 512 && decide (fld ds 600 4 = crc32 (pcs ds 1024 16384))) with
   | true =>
    obtain ⟨p, hp, D, cap, l, k1, k2, O⟩ := hr1 hq1
    exact ⟨p, D, cap, l, _, _, _, _, _, _, _, _, _, _, hp, k1.trans (usedC_P _ _), k2, O.sh.look (b := p), O.pr (fun x hx => .tail _ hx), fun _ => ⟨rfl, rfl, rfl, rfl⟩, fun h => by exact Bool.noConfusion h⟩
   | false =>
    rw [hq1, Bool.false_or] at hgg
    obtain ⟨p, hp, D, cap, l, k1, k2, O⟩ := hr2 hq1 hgg
    exact ⟨p, D, cap, l, _, _, _, _, _, _, _, _, _, _, hp, k1.trans (usedC_P _ _), k2, O.sh.look (b := p), O.pr (fun x hx => .tail _ hx), fun h => by exact Bool.noConfusion h, fun _ => ⟨rfl, rfl, rfl, rfl⟩⟩
  obtain ⟨p, D, cap, l, qs, g, pr, rb, crc, my, oth, fi, lx, f2, rfl, k1, k2, hp, hpr, q1, q2⟩ := hX
  have hql : qs.length = l.length := by have := congrArg List.length k1; simpa using this.symm
  refine sk ?_
  refine then_n ?_
  refine sq ?_
  refine rg ?_
  refine mv (v := .pointer _) rfl rfl ?_
  refine cl ca38 (c_told _ p D cap l qs g pr rb _ _ _ _ _ _ _ _ _ hp hpr k1 (by omega)) rfl ?_
  rintro _ w5 ⟨D2, cap2, rfl, O⟩
  replace O := O.joinN H (by simp)
  simp only [List.append_nil] at O
  replace H := O.sh
  refine sa (cs' := gtCells D2 l.length cap2 512 g pr rb) H rfl rfl ag24_5 rfl rfl (by show 0 + 5 ≤ 5; decide) (by omega) rfl ?_
  intro w96 H96 F96; replace O := O.put F96 H96.look; clear H H96 F96; have H := O.sh
  refine asg (v := .bool _) rfl rfl ?_
  refine nl ?_
  refine then_n ?_
  refine rt ?_
  refine finR_r ?_
  refine ⟨[_, _], ⟨finC rfl (H.look (b := b1)) ag24_5, rfl, trivial⟩, H.fr, _, by rw [hgg]; rfl, fun h => ?_, fun h1 h2 => ?_, fun h1 h2 => by rw [h1, h2] at hgg; exact Bool.noConfusion hgg⟩
  ·obtain ⟨rfl, rfl, rfl, rfl⟩ := q1 h
   rw [hql]
   exact ⟨D2, cap2, rfl, O.sub (List.nil_sublist _)⟩
  ·obtain ⟨rfl, rfl, rfl, rfl⟩ := q2 h1
   rw [hql]
   exact ⟨D2, cap2, rfl, O.sub (List.nil_sublist _)⟩

end Go.Proofs.YthcaejaaalkglaaGreatDoor.X

/- Walks of functions, printed by a program of this claim. -/
namespace Go.Proofs.YthcaejaaalkglaaGreatDoor.X
set_option linter.unusedVariables false
set_option linter.unusedSimpArgs false
open Go Go.RowKit

namespace PF
theorem ca23 : callable Tryz.prog 23 = true := by kernel_rfl
theorem ca36 : callable Tryz.prog 36 = true := by kernel_rfl
theorem fo54_3 : fieldOff Tryz.prog 54 3 = some 3 := by kernel_rfl
end PF
open PF

set_option maxRecDepth 100000 in
set_option maxHeartbeats 1000000 in
theorem c_samePart (w : World) (p q : GP) : Calls Tryz.prog 36 #[.agg p.cells.toArray, .agg q.cells.toArray] w (Ret fun v w' => v = .bool (sameP p q) ∧ Fr [] w w') := by
 refine enter (fun ρ => ρ 4) Tryz.func36 rfl rfl rfl (res1 rfl) ?_
 have H := SH.nil w
 refine sq ?_
 refine rg ?_
 refine bx (v := .agg _) H rfl rfl rfl ?_
 clear H; intro b1 w1 hb1 H _
 refine bx (v := .agg _) H rfl rfl rfl ?_
 clear H; intro b2 w2 hb2 H _
 refine asg (v := .bool _) rfl rfl ?_
 refine nl ?_
 refine then_n ?_
 refine sq ?_
 refine rg ?_
 refine fa rfl fo54_0 rfl ?_
 refine ld H rfl sc3 rfl rfl ?_
 refine fa rfl fo54_0 rfl ?_
 refine ld H rfl sc3 rfl rfl ?_
 refine eql rfl rfl rfl ?_
 refine mv (v := .bool _) rfl rfl ?_
 refine spd (t := 10) rfl (fun hg1 => ?_) (fun hg1 => ?_)
 ·refine gy rfl ?_
  refine fa rfl fo54_1 rfl ?_
  refine gy rfl ?_
  refine ld H rfl sc28 rfl rfl ?_
  refine gy rfl ?_
  refine fa rfl fo54_1 rfl ?_
  refine gy rfl ?_
  refine ld H rfl sc28 rfl rfl ?_
  refine gy rfl ?_
  refine eql rfl rfl rfl ?_
  refine pkT (v := .bool _) rfl rfl rfl ?_
  refine mv (v := .bool _) rfl rfl ?_
  refine spd (t := 17) rfl (fun hg2 => ?_) (fun hg2 => ?_)
  ·refine gy rfl ?_
   refine fa rfl fo54_2 rfl ?_
   refine gy rfl ?_
   refine ld H rfl sc28 rfl rfl ?_
   refine gy rfl ?_
   refine fa rfl fo54_2 rfl ?_
   refine gy rfl ?_
   refine ld H rfl sc28 rfl rfl ?_
   refine gy rfl ?_
   refine eql rfl rfl rfl ?_
   refine pkT (v := .bool _) rfl rfl rfl ?_
   refine mv (v := .bool _) rfl rfl ?_
   refine spd (t := 24) rfl (fun hg3 => ?_) (fun hg3 => ?_)
   ·refine gy rfl ?_
    refine fa rfl fo54_3 rfl ?_
    refine gy rfl ?_
    refine ld H rfl sc28 rfl rfl ?_
    refine gy rfl ?_
    refine fa rfl fo54_3 rfl ?_
    refine gy rfl ?_
    refine ld H rfl sc28 rfl rfl ?_
    refine gy rfl ?_
    refine eql rfl rfl rfl ?_
    refine pkT (v := .bool _) rfl rfl rfl ?_
    refine mv (v := .bool _) rfl rfl ?_
    refine spd (t := 31) rfl (fun hg4 => ?_) (fun hg4 => ?_)
    ·refine gy rfl ?_
     refine fa rfl fo54_4 rfl ?_
     refine gy rfl ?_
     refine ld H rfl sc9 rfl rfl ?_
     refine gy rfl ?_
     refine fa rfl fo54_4 rfl ?_
     refine gy rfl ?_
     refine ld H rfl sc9 rfl rfl ?_
     refine gy rfl ?_
     refine cl ca23 (c_sameGuid _ _ _) rfl ?_
     rintro _ w3 ⟨rfl, F⟩
     replace H := H.keep F; clear F
     refine pkT (v := .bool _) rfl rfl rfl ?_
     refine mv (v := .bool _) rfl rfl ?_
     refine sp (t := 38) rfl (fun hg5 => ?_) (fun hg5 => ?_)
     ·refine gy rfl ?_
      refine fa rfl fo54_6 rfl ?_
      refine gy rfl ?_
      refine ld H rfl sc9 rfl rfl ?_
      refine gy rfl ?_
      refine fa rfl fo54_6 rfl ?_
      refine gy rfl ?_
      refine ld H rfl sc9 rfl rfl ?_
      refine gy rfl ?_
      refine cl ca23 (c_sameGuid _ _ _) rfl ?_
      rintro _ w4 ⟨rfl, F⟩
      replace H := H.keep F; clear F
      refine pkT (v := .bool _) rfl rfl rfl ?_
      refine mv (v := .bool _) rfl rfl ?_
      refine sp (t := 45) rfl (fun hg6 => ?_) (fun hg6 => ?_)
      ·refine gy rfl ?_
       refine fa rfl fo54_5 rfl ?_
       refine gy rfl ?_
       refine ld H rfl sc9 rfl rfl ?_
       refine gy rfl ?_
       refine fa rfl fo54_5 rfl ?_
       refine gy rfl ?_
       refine ld H rfl sc9 rfl rfl ?_
       refine gy rfl ?_
       refine eqlT rfl rfl rfl ?_
       refine pkT (v := .bool _) rfl rfl rfl ?_
       refine mv (v := .bool _) rfl rfl ?_
       refine spd (t := 52) rfl (fun hg7 => ?_) (fun hg7 => ?_)
       ·refine gy rfl ?_
        refine fa rfl fo54_7 rfl ?_
        refine gy rfl ?_
        refine ld H rfl sc28 rfl rfl ?_
        refine gy rfl ?_
        refine fa rfl fo54_7 rfl ?_
        refine gy rfl ?_
        refine ld H rfl sc28 rfl rfl ?_
        refine gy rfl ?_
        refine eql rfl rfl rfl ?_
        refine pkT (v := .bool _) rfl rfl rfl ?_
        refine asg (v := .bool _) rfl rfl ?_
        refine nl ?_
        refine then_n ?_
        refine rt ?_
        refine fin_r ?_
        refine ⟨congrArg Value.bool ?_, H.fr⟩
        (simp [sameP, hg1, hg2, hg3, hg4, hg5, hg6, hg7]; done)
       ·refine gn rfl rfl ?_
        refine gn rfl rfl ?_
        refine gn rfl rfl ?_
        refine gn rfl rfl ?_
        refine gn rfl rfl ?_
        refine pkF (v := .bool _) rfl rfl rfl ?_
        refine asg (v := .bool _) rfl rfl ?_
        refine nl ?_
        refine then_n ?_
        refine rt ?_
        refine fin_r ?_
        refine ⟨congrArg Value.bool ?_, H.fr⟩
        (simp [sameP, hg1, hg2, hg3, hg4, hg5, hg6, hg7]; done)
      ·refine gn rfl rfl ?_
       refine gn rfl rfl ?_
       refine gn rfl rfl ?_
       refine gn rfl rfl ?_
       refine gn rfl rfl ?_
       refine pkF (v := .bool _) rfl rfl rfl ?_
       refine mv (v := .bool _) rfl rfl ?_
       refine gn rfl rfl ?_
       refine gn rfl rfl ?_
       refine gn rfl rfl ?_
       refine gn rfl rfl ?_
       refine gn rfl rfl ?_
       refine pkF (v := .bool _) rfl rfl rfl ?_
       refine asg (v := .bool _) rfl rfl ?_
       refine nl ?_
       refine then_n ?_
       refine rt ?_
       refine fin_r ?_
       refine ⟨congrArg Value.bool ?_, H.fr⟩
       (simp [sameP, hg1, hg2, hg3, hg4, hg5, hg6]; done)
     ·refine gn rfl rfl ?_
      refine gn rfl rfl ?_
      refine gn rfl rfl ?_
      refine gn rfl rfl ?_
      refine gn rfl rfl ?_
      refine pkF (v := .bool _) rfl rfl rfl ?_
      refine mv (v := .bool _) rfl rfl ?_
      refine gn rfl rfl ?_
      refine gn rfl rfl ?_
      refine gn rfl rfl ?_
      refine gn rfl rfl ?_
      refine gn rfl rfl ?_
      refine pkF (v := .bool _) rfl rfl rfl ?_
      refine mv (v := .bool _) rfl rfl ?_
      refine gn rfl rfl ?_
      refine gn rfl rfl ?_
      refine gn rfl rfl ?_
      refine gn rfl rfl ?_
      refine gn rfl rfl ?_
      refine pkF (v := .bool _) rfl rfl rfl ?_
      refine asg (v := .bool _) rfl rfl ?_
      refine nl ?_
      refine then_n ?_
      refine rt ?_
      refine fin_r ?_
      refine ⟨congrArg Value.bool ?_, H.fr⟩
      (simp [sameP, hg1, hg2, hg3, hg4, hg5]; done)
    ·refine gn rfl rfl ?_
     refine gn rfl rfl ?_
     refine gn rfl rfl ?_
     refine gn rfl rfl ?_
     refine gn rfl rfl ?_
     refine pkF (v := .bool _) rfl rfl rfl ?_
     refine mv (v := .bool _) rfl rfl ?_
     refine gn rfl rfl ?_
     refine gn rfl rfl ?_
     refine gn rfl rfl ?_
     refine gn rfl rfl ?_
     refine gn rfl rfl ?_
     refine pkF (v := .bool _) rfl rfl rfl ?_
     refine mv (v := .bool _) rfl rfl ?_
     refine gn rfl rfl ?_
     refine gn rfl rfl ?_
     refine gn rfl rfl ?_
     refine gn rfl rfl ?_
     refine gn rfl rfl ?_
     refine pkF (v := .bool _) rfl rfl rfl ?_
     refine mv (v := .bool _) rfl rfl ?_
     refine gn rfl rfl ?_
     refine gn rfl rfl ?_
     refine gn rfl rfl ?_
     refine gn rfl rfl ?_
     refine gn rfl rfl ?_
     refine pkF (v := .bool _) rfl rfl rfl ?_
     refine asg (v := .bool _) rfl rfl ?_
     refine nl ?_
     refine then_n ?_
     refine rt ?_
     refine fin_r ?_
     refine ⟨congrArg Value.bool ?_, H.fr⟩
     (simp [sameP, hg1, hg2, hg3, hg4]; done)
   ·refine gn rfl rfl ?_
    refine gn rfl rfl ?_
    refine gn rfl rfl ?_
    refine gn rfl rfl ?_
    refine gn rfl rfl ?_
    refine pkF (v := .bool _) rfl rfl rfl ?_
    refine mv (v := .bool _) rfl rfl ?_
    refine gn rfl rfl ?_
    refine gn rfl rfl ?_
    refine gn rfl rfl ?_
    refine gn rfl rfl ?_
    refine gn rfl rfl ?_
    refine pkF (v := .bool _) rfl rfl rfl ?_
    refine mv (v := .bool _) rfl rfl ?_
    refine gn rfl rfl ?_
    refine gn rfl rfl ?_
    refine gn rfl rfl ?_
    refine gn rfl rfl ?_
    refine gn rfl rfl ?_
    refine pkF (v := .bool _) rfl rfl rfl ?_
    refine mv (v := .bool _) rfl rfl ?_
    refine gn rfl rfl ?_
    refine gn rfl rfl ?_
    refine gn rfl rfl ?_
    refine gn rfl rfl ?_
    refine gn rfl rfl ?_
    refine pkF (v := .bool _) rfl rfl rfl ?_
    refine mv (v := .bool _) rfl rfl ?_
    refine gn rfl rfl ?_
    refine gn rfl rfl ?_
    refine gn rfl rfl ?_
    refine gn rfl rfl ?_
    refine gn rfl rfl ?_
    refine pkF (v := .bool _) rfl rfl rfl ?_
    refine asg (v := .bool _) rfl rfl ?_
    refine nl ?_
    refine then_n ?_
    refine rt ?_
    refine fin_r ?_
    refine ⟨congrArg Value.bool ?_, H.fr⟩
    (simp [sameP, hg1, hg2, hg3]; done)
  ·refine gn rfl rfl ?_
   refine gn rfl rfl ?_
   refine gn rfl rfl ?_
   refine gn rfl rfl ?_
   refine gn rfl rfl ?_
   refine pkF (v := .bool _) rfl rfl rfl ?_
   refine mv (v := .bool _) rfl rfl ?_
   refine gn rfl rfl ?_
   refine gn rfl rfl ?_
   refine gn rfl rfl ?_
   refine gn rfl rfl ?_
   refine gn rfl rfl ?_
   refine pkF (v := .bool _) rfl rfl rfl ?_
   refine mv (v := .bool _) rfl rfl ?_
   refine gn rfl rfl ?_
   refine gn rfl rfl ?_
   refine gn rfl rfl ?_
   refine gn rfl rfl ?_
   refine gn rfl rfl ?_
   refine pkF (v := .bool _) rfl rfl rfl ?_
   refine mv (v := .bool _) rfl rfl ?_
   refine gn rfl rfl ?_
   refine gn rfl rfl ?_
   refine gn rfl rfl ?_
   refine gn rfl rfl ?_
   refine gn rfl rfl ?_
   refine pkF (v := .bool _) rfl rfl rfl ?_
   refine mv (v := .bool _) rfl rfl ?_
   refine gn rfl rfl ?_
   refine gn rfl rfl ?_
   refine gn rfl rfl ?_
   refine gn rfl rfl ?_
   refine gn rfl rfl ?_
   refine pkF (v := .bool _) rfl rfl rfl ?_
   refine mv (v := .bool _) rfl rfl ?_
   refine gn rfl rfl ?_
   refine gn rfl rfl ?_
   refine gn rfl rfl ?_
   refine gn rfl rfl ?_
   refine gn rfl rfl ?_
   refine pkF (v := .bool _) rfl rfl rfl ?_
   refine asg (v := .bool _) rfl rfl ?_
   refine nl ?_
   refine then_n ?_
   refine rt ?_
   refine fin_r ?_
   refine ⟨congrArg Value.bool ?_, H.fr⟩
   (simp [sameP, hg1, hg2]; done)
 ·refine gn rfl rfl ?_
  refine gn rfl rfl ?_
  refine gn rfl rfl ?_
  refine gn rfl rfl ?_
  refine gn rfl rfl ?_
  refine pkF (v := .bool _) rfl rfl rfl ?_
  refine mv (v := .bool _) rfl rfl ?_
  refine gn rfl rfl ?_
  refine gn rfl rfl ?_
  refine gn rfl rfl ?_
  refine gn rfl rfl ?_
  refine gn rfl rfl ?_
  refine pkF (v := .bool _) rfl rfl rfl ?_
  refine mv (v := .bool _) rfl rfl ?_
  refine gn rfl rfl ?_
  refine gn rfl rfl ?_
  refine gn rfl rfl ?_
  refine gn rfl rfl ?_
  refine gn rfl rfl ?_
  refine pkF (v := .bool _) rfl rfl rfl ?_
  refine mv (v := .bool _) rfl rfl ?_
  refine gn rfl rfl ?_
  refine gn rfl rfl ?_
  refine gn rfl rfl ?_
  refine gn rfl rfl ?_
  refine gn rfl rfl ?_
  refine pkF (v := .bool _) rfl rfl rfl ?_
  refine mv (v := .bool _) rfl rfl ?_
  refine gn rfl rfl ?_
  refine gn rfl rfl ?_
  refine gn rfl rfl ?_
  refine gn rfl rfl ?_
  refine gn rfl rfl ?_
  refine pkF (v := .bool _) rfl rfl rfl ?_
  refine mv (v := .bool _) rfl rfl ?_
  refine gn rfl rfl ?_
  refine gn rfl rfl ?_
  refine gn rfl rfl ?_
  refine gn rfl rfl ?_
  refine gn rfl rfl ?_
  refine pkF (v := .bool _) rfl rfl rfl ?_
  refine mv (v := .bool _) rfl rfl ?_
  refine gn rfl rfl ?_
  refine gn rfl rfl ?_
  refine gn rfl rfl ?_
  refine gn rfl rfl ?_
  refine gn rfl rfl ?_
  refine pkF (v := .bool _) rfl rfl rfl ?_
  refine asg (v := .bool _) rfl rfl ?_
  refine nl ?_
  refine then_n ?_
  refine rt ?_
  refine fin_r ?_
  refine ⟨congrArg Value.bool ?_, H.fr⟩
  (simp [sameP, hg1]; done)

set_option maxRecDepth 100000 in
set_option maxHeartbeats 1000000 in
theorem c_sameGpt (w : World) (D1 D2 : Option Addr) (m1 c1 m2 c2 : Nat) (g1 g2 : List UInt8) (pr1 rc1 pr2 rc2 : Bool) (ps qs : List GP) (h1 : RG w D1 m1 c1 ps) (h2 : RG w D2 m2 c2 qs) (hm : m1 ≤ 1000) : Calls Tryz.prog 15 #[.agg (gtCells D1 m1 c1 512 g1 pr1 rc1).toArray, .agg (gtCells D2 m2 c2 512 g2 pr2 rc2).toArray] w (Ret fun v w' => v = .bool (sameT g1 g2 ps qs) ∧ Fr [] w w') := by
 refine enter (fun ρ => ρ 4) Tryz.func15 rfl rfl rfl (res1 rfl) ?_
 have H := SH.nil w
 have hl1 := h1.len
 have hl2 := h2.len
 refine sq ?_
 refine rg ?_
 refine bx (v := .agg _) H rfl rfl rfl ?_
 clear H; intro b1 w1 hb1 H _
 refine bx (v := .agg _) H rfl rfl rfl ?_
 clear H; intro b2 w2 hb2 H _
 refine asg (v := .bool _) rfl rfl ?_
 refine nl ?_
 refine then_n ?_
 refine sq ?_
 refine sq ?_
 refine rg ?_
 refine fa rfl fo24_2 rfl ?_
 refine ld H rfl sc9 rfl rfl ?_
 refine fa rfl fo24_2 rfl ?_
 refine ld H rfl sc9 rfl rfl ?_
 refine cl ca23 (c_sameGuid _ _ _) rfl ?_
 rintro _ w3 ⟨rfl, F⟩
 replace H := H.keep F; clear F
 refine unot rfl rfl ?_
 refine mv (v := .bool _) rfl rfl ?_
 refine sp (t := 13) rfl (fun hg1 => ?_) (fun hg1 => ?_)
 ·refine gn rfl rfl ?_
  refine gn rfl rfl ?_
  refine gn rfl rfl ?_
  refine gn rfl rfl ?_
  refine gn rfl rfl ?_
  refine gn rfl rfl ?_
  refine gn rfl rfl ?_
  refine pkT (v := .bool _) rfl rfl rfl ?_
  refine nl ?_
  refine then_n ?_
  refine cbT rfl rfl ?_
  refine sq ?_
  refine rg ?_
  refine asg (v := .bool _) rfl rfl ?_
  refine nl ?_
  refine then_n ?_
  refine rt ?_
  refine then_r ?_
  refine fin_r ?_
  have hz : sameG g1 g2 = false := by simpa using hg1
  exact ⟨congrArg Value.bool (by unfold sameT; rw [hz]; rfl), H.fr⟩
 ·refine gy rfl ?_
  refine fa rfl fo24_0 rfl ?_
  refine gy rfl ?_
  refine ld H rfl sc22 rfl rfl ?_
  refine gy rfl ?_
  refine lnS rfl Tryz.underlying22 rfl ?_
  refine gy rfl ?_
  refine fa rfl fo24_0 rfl ?_
  refine gy rfl ?_
  refine ld H rfl sc22 rfl rfl ?_
  refine gy rfl ?_
  refine lnS rfl Tryz.underlying22 rfl ?_
  refine gy rfl ?_
  refine neq rfl rfl rfl ?_
  refine pkF (v := .bool _) rfl rfl rfl ?_
  refine nl ?_
  refine then_n ?_
  refine cd rfl (fun hc1 => ?_) (fun hc1 => ?_)
  ·refine sq ?_
   refine rg ?_
   refine asg (v := .bool _) rfl rfl ?_
   refine nl ?_
   refine then_n ?_
   refine rt ?_
   refine then_r ?_
   refine fin_r ?_
   exact ⟨congrArg Value.bool (by unfold sameT; rw [decide_eq_false (p := ps.length = qs.length) (by omega)]; simp), H.fr⟩
  ·refine sk ?_
   refine then_n ?_
   refine sq ?_
   refine sq ?_
   refine rg ?_
   refine fa rfl fo24_0 rfl ?_
   refine ld H rfl sc22 rfl rfl ?_
   refine lnS rfl Tryz.underlying22 rfl ?_
   refine mv (v := .int .i64 _) rfl rfl ?_
   refine nl ?_
   refine then_n ?_
   refine bk ?_
   refine lpM (α := Nat) [4, 5, 6, 25, 26, 27, 28, 29, 30, 31, 32, 33, 34, 35, 36, 37, 38] (fun i => [(25, .int .i64 (i : Int))]) (fun i w' => i ≤ m1 ∧ (∀ j p q, j < i → ps[j]? = some p → qs[j]? = some q → sameP p q = true) ∧ SH w [] w' [⟨b2, .cells (gtCells D2 m2 c2 512 g2 pr2 rc2).toArray 24 (0, 0), true⟩, ⟨b1, .cells (gtCells D1 m1 c1 512 g1 pr1 rc1).toArray 24 (0, 0), true⟩]) (fun i => m1 - i) 0 ?_ (fC (by first | rfl | exact congrArg (Value.int _) (by first | omega | assumption | (symm; assumption) | (simp; done) | (simp; omega)) | exact congrArg (fun n => Value.slice _ n _) (by first | omega | (simp; done) | (simp; omega))) (fN _)) ?_
   ·exact ⟨by omega, fun j p q hj => by omega, H⟩
   ·rintro i ρx w4 ⟨hi, hs, H⟩
    refine sq ?_
    refine rg ?_
    refine lss rfl rfl rfl ?_
    refine nl ?_
    refine then_n ?_
    refine sq ?_
    refine cd rfl (fun hc2 => ?_) (fun hc2 => ?_)
    ·obtain ⟨p, hpi⟩ : ∃ p, ps[i]? = some p := ⟨_, List.getElem?_eq_getElem (by omega)⟩
     obtain ⟨q, hqi⟩ : ∃ q, qs[i]? = some q := ⟨_, List.getElem?_eq_getElem (by omega)⟩
     obtain ⟨ad, rfl⟩ := h1.some_of (by omega)
     obtain ⟨ad2, rfl⟩ := h2.some_of (by omega)
     refine sk ?_
     refine then_n ?_
     refine sq ?_
     refine bk ?_
     refine sq ?_
     refine rg ?_
     refine mv (v := .int .i64 _) rfl rfl ?_
     refine iBN (ad.add (i * 8)) rfl rfl Tryz.underlying22 sz54_8 (by omega) (by simp) rfl ?_
     refine lw (vs := p.cells) rfl ag54_8 rfl (fun j v h => H.fr.cell (h1.elem hpi j v h) (by simp)) rfl ?_
     refine al H ze54 rfl ?_
     clear H; intro b3 w5 hb3 H _
     refine asg (v := .int .i64 _) rfl rfl ?_
     refine sa (cs' := p.cells) H rfl rfl ag54_8 rfl rfl (by decide) (by omega) rfl ?_
     clear H; intro w35 H _
     refine nl ?_
     refine then_n ?_
     refine sq ?_
     refine dr (by kernel_rfl) ?_
     have H := H.drew
     refine hold (fun _ => True) [] ?_
     refine tk (i := 1) rfl (by kernel_rfl) rfl trivial (fun _ _ => r_fa rfl fo24_0) ?_
     refine tk (i := 3) rfl (by kernel_rfl) rfl trivial (fun _ _ => r_mv (v := .int .i64 _) rfl) ?_
     refine unfree ?_
     refine holdH H [] ?_
     refine tk (i := 0) rfl (by kernel_rfl) rfl H (fun w' H => r_la (vs := p.cells) H rfl ag54_8 rfl rfl) ?_
     refine tk (i := 2) rfl (by kernel_rfl) rfl H (fun w' H => r_ld H rfl sc22 rfl) ?_
     refine tk (i := 4) rfl (by kernel_rfl) rfl H (fun w' H => r_iBN (ad2.add (i * 8)) rfl rfl Tryz.underlying22 sz54_8 (by omega) (by simp)) ?_
     refine tk (i := 5) rfl (by kernel_rfl) rfl H (fun w' H => r_lw (vs := q.cells) rfl ag54_8 rfl (fun j v h => H.fr.cell (h2.elem hqi j v h) (by simp))) ?_
     refine fk (i := 6) (by kernel_rfl) rfl rfl rfl ?_
     refine cl ca36 (c_samePart _ p q) rfl ?_
     rintro _ w6 ⟨rfl, F⟩
     replace H := H.keep F; clear F
     refine nl ?_
     refine then_n ?_
     refine ⟨H, ?_⟩
     refine tk (i := 7) rfl (by kernel_rfl) rfl H (fun w' H => r_unot rfl) ?_
     refine da (by kernel_rfl) ?_
     refine then_n ?_
     refine cn rfl (fun hc3 => ?_) (fun hc3 => ?_)
     ·refine sq ?_
      refine rg ?_
      refine asg (v := .bool _) rfl rfl ?_
      refine nl ?_
      refine then_n ?_
      refine rt ?_
      refine in_r ?_
      refine then_r ?_
      refine loop_r ?_
      refine in_r ?_
      refine then_r ?_
      refine fin_r ?_
      exact ⟨congrArg Value.bool (sameT_f hpi hqi (by simpa using hc3)).symm, H.fr⟩
     ·refine sk ?_
      refine in_n ?_
      refine then_n ?_
      refine rg ?_
      refine add rfl rfl (by first | exact w_i64 (by omega) | exact w_i64 (rng_i64 _) | rfl) rfl ?_
      refine mv (v := .int .i64 _) rfl rfl ?_
      refine nl ?_
      refine loop_n ?_
      exact ⟨i + 1, (by (try dsimp only); omega), ⟨by omega, sameS_next hs hpi hqi (by simpa using hc3), H.sub (by repeat (first | exact List.Sublist.refl _ | exact List.nil_sublist _ | apply List.Sublist.cons_cons | apply List.Sublist.cons))⟩, (fC (by first | rfl | exact congrArg (Value.int _) (by first | omega | assumption | (symm; assumption) | (simp; done) | (simp; omega)) | exact congrArg (fun n => Value.slice _ n _) (by first | omega | (simp; done) | (simp; omega))) (fN _)), (by repeat (first | exact Agree.setL rfl Agree.mask | exact Agree.self _ _ | refine Agree.upd rfl ?_ | refine Agree.setL rfl ?_ | refine Agree.mask2 rfl ?_))⟩
    ·refine ex ?_
     refine then_e ?_
     refine loop_e ?_
     refine in_hit rfl ?_
     refine then_n ?_
     refine sq ?_
     refine rg ?_
     refine asg (v := .bool _) rfl rfl ?_
     refine nl ?_
     refine then_n ?_
     refine rt ?_
     refine fin_r ?_
     obtain rfl : i = m1 := by omega
     exact ⟨congrArg Value.bool (sameT_t (by simpa using hg1) (by omega) (fun j p q hj => hs j p q (by omega))).symm, H.fr⟩

end Go.Proofs.YthcaejaaalkglaaGreatDoor.X

/- Walks of functions, printed by a program of this claim. -/
namespace Go.Proofs.YthcaejaaalkglaaGreatDoor.X
set_option linter.unusedVariables false
set_option linter.unusedSimpArgs false
open Go Go.RowKit

open PF

set_option maxRecDepth 100000 in
set_option maxHeartbeats 1000000 in
theorem c_used (w : World) (D : Option Addr) (m c : Nat) (g : List UInt8) (pr rc : Bool) (ps : List GP) (hq : RG w D m c ps) (hm : m ≤ 200) : Calls Tryz.prog 18 #[.agg (gtCells D m c 512 g pr rc).toArray] w (Ret fun v w' => ∃ D2 cap2, v = .agg (gtCells D2 (keepP ps).length cap2 512 g pr rc).toArray ∧ OR 54 8 w [] w' [] D2 (keepP ps).length cap2 ((keepP ps).flatMap GP.cells)) := by
 refine enterR [.cell 2 24] Tryz.func18 rfl rfl rfl rfl ?_
 have H := SH.nil w
 have hql := hq.len
 have hkl := keepP_le ps
 refine sq ?_
 refine rg ?_
 refine bx (v := .agg _) H rfl rfl rfl ?_
 clear H; intro b1 w1 hb1 H _
 refine al H ze24 rfl ?_
 clear H; intro b2 w2 hb2 H _
 refine nl ?_
 refine then_n ?_
 refine sq ?_
 refine rg ?_
 refine asg (v := .slice _ _ _) rfl rfl ?_
 refine nl ?_
 refine then_n ?_
 refine sq ?_
 refine sq ?_
 refine rg ?_
 refine fa rfl fo24_0 rfl ?_
 refine ld H rfl sc22 rfl rfl ?_
 refine lnS rfl Tryz.underlying22 rfl ?_
 refine mv (v := .int .i64 _) rfl rfl ?_
 refine nl ?_
 refine then_n ?_
 refine bk ?_
 refine lpM (α := Nat × Option Addr × Nat) [3, 5, 9, 10, 11, 12, 13, 14, 15, 16, 17, 18, 19, 20, 21] (fun (i, D2, cap2) => [(3, .slice D2 (keepP (ps.take i)).length cap2), (9, .int .i64 (i : Int))]) (fun (i, D2, cap2) w' => i ≤ m ∧ OR 54 8 w [] w' [⟨b2, .cells (gtCells none 0 0 0 [] false false).toArray 24 (0, 0), true⟩, ⟨b1, .cells (gtCells D m c 512 g pr rc).toArray 24 (0, 0), true⟩] D2 (keepP (ps.take i)).length cap2 ((keepP (ps.take i)).flatMap GP.cells)) (fun (i, D2, cap2) => m - i) (0, none, 0) ?_ (fC (by first | rfl | exact congrArg (Value.int _) (by first | omega | assumption | (symm; assumption) | (simp; done) | (simp; omega)) | exact congrArg (fun n => Value.slice _ n _) (by first | omega | (simp; done) | (simp; omega))) (fC (by first | rfl | exact congrArg (Value.int _) (by first | omega | assumption | (symm; assumption) | (simp; done) | (simp; omega)) | exact congrArg (fun n => Value.slice _ n _) (by first | omega | (simp; done) | (simp; omega))) (fN _))) ?_
 ·exact ⟨by omega, OR.nil H⟩
 ·rintro ⟨i, D2, cap2⟩ ρx w3 ⟨hi, O⟩
  have H := O.sh
  have hkt : (keepP (ps.take i)).length ≤ i := Nat.le_trans (keepP_le _) (by simp; omega)
  refine sq ?_
  refine rg ?_
  refine lss rfl rfl rfl ?_
  refine nl ?_
  refine then_n ?_
  refine sq ?_
  refine cd rfl (fun hc1 => ?_) (fun hc1 => ?_)
  ·obtain ⟨p, hpi⟩ : ∃ p, ps[i]? = some p := ⟨_, List.getElem?_eq_getElem (by omega)⟩
   obtain ⟨ad, rfl⟩ := hq.some_of (by omega)
   refine sk ?_
   refine then_n ?_
   refine sq ?_
   refine bk ?_
   refine sq ?_
   refine rg ?_
   refine iBN (ad.add (i * 8)) rfl rfl Tryz.underlying22 sz54_8 (by omega) (by simp) rfl ?_
   refine lw (vs := p.cells) rfl ag54_8 rfl (fun j v h => H.fr.cell (hq.elem hpi j v h) (by simp)) rfl ?_
   refine al H ze54 rfl ?_
   intro b3 w4 hb3 H1 F; replace O := O.new F hb3 H1.look; clear H H1 F; have H := O.sh
   refine sa (cs' := p.cells) H rfl rfl ag54_8 rfl rfl (by decide) (by omega) rfl ?_
   intro w35 H1 F; replace O := O.put F H1.look; clear H H1 F; have H := O.sh
   refine nl ?_
   refine then_n ?_
   refine sq ?_
   refine rg ?_
   refine fa rfl fo54_4 rfl ?_
   refine ld H rfl sc9 rfl rfl ?_
   refine cl ca23 (c_sameGuid _ p.ty zG) rfl ?_
   rintro _ w5 ⟨rfl, F⟩
   replace H := H.keep F; replace O := O.keep F; clear F
   refine unot rfl rfl ?_
   refine nl ?_
   refine then_n ?_
   refine cn rfl (fun hc2 => ?_) (fun hc2 => ?_)
   ·have hkp : sameG p.ty zG = false := by simpa using hc2
    refine rg ?_
    refine mv (v := .slice _ _ _) rfl rfl ?_
    refine la (vs := p.cells) H rfl ag54_8 rfl rfl rfl ?_
    refine bsl (sz := 8) (out := ?o1) H Tryz.underlying22 ze54 sz54_8 (by decide) ?f1 rfl ?_
    case f1 =>
     refine FS.agg (vs := _) rfl rfl (by first | decide | simp) ?_
     exact FS.nil
    intro b4 w6 hb4 H1 F; replace O := O.new F hb4 H1.look; clear H H1 F; have H := O.sh
    have hke := keepP_t hpi hkp
    refine apO (zs := [.int .i64 0, .int .u64 0, .int .u64 0, .int .u64 0, .string ⟨#[]⟩, .string ⟨#[]⟩, .string ⟨#[]⟩, .int .u64 0]) p.cells O rfl rfl Tryz.underlying22 ri54 (by first | rfl | simp) (cells_look H.look) (List.all_eq_true.1 p.cells_one) (by simp) (by omega) (by unfold maxLen; omega) rfl ?_
    clear O H; intro D9 cp9 w7 O
    replace O := O.drop; have H := O.sh
    have hkl9 : (keepP (ps.take (i + 1))).length = (keepP (ps.take i)).length + 1 := by rw [hke]; simp
    refine asg (v := .slice _ _ _) rfl rfl ?_
    refine nl ?_
    refine in_n ?_
    refine then_n ?_
    refine rg ?_
    refine add rfl rfl (by first | exact w_i64 (by omega) | exact w_i64 (rng_i64 _) | rfl) rfl ?_
    refine mv (v := .int .i64 _) rfl rfl ?_
    refine nl ?_
    refine loop_n ?_
    exact ⟨(i + 1, D9, cp9), (by (try dsimp only); omega), ⟨by omega, by rw [keepP_t hpi hkp, List.flatMap_append, List.length_append]; exact O.sub (by repeat (first | exact List.Sublist.refl _ | exact List.nil_sublist _ | apply List.Sublist.cons_cons | apply List.Sublist.cons))⟩, (fC (by first | rfl | exact congrArg (Value.int _) (by first | omega | assumption | (symm; assumption) | (simp; done) | (simp; omega)) | exact congrArg (fun n => Value.slice _ n _) (by first | omega | (simp; done) | (simp; omega))) (fC (by first | rfl | exact congrArg (Value.int _) (by first | omega | assumption | (symm; assumption) | (simp; done) | (simp; omega)) | exact congrArg (fun n => Value.slice _ n _) (by first | omega | (simp; done) | (simp; omega))) (fN _))), (by repeat (first | exact Agree.setL rfl Agree.mask | exact Agree.self _ _ | refine Agree.upd rfl ?_ | refine Agree.setL rfl ?_ | refine Agree.mask2 rfl ?_))⟩
   ·have hkp : sameG p.ty zG = true := by simpa using hc2
    have hke := keepP_f hpi hkp
    have hkl9 : (keepP (ps.take (i + 1))).length = (keepP (ps.take i)).length := by rw [hke]
    refine sk ?_
    refine in_n ?_
    refine then_n ?_
    refine rg ?_
    refine add rfl rfl (by first | exact w_i64 (by omega) | exact w_i64 (rng_i64 _) | rfl) rfl ?_
    refine mv (v := .int .i64 _) rfl rfl ?_
    refine nl ?_
    refine loop_n ?_
    exact ⟨(i + 1, D2, cap2), (by (try dsimp only); omega), ⟨by omega, by rw [keepP_f hpi hkp]; exact O.sub (by repeat (first | exact List.Sublist.refl _ | exact List.nil_sublist _ | apply List.Sublist.cons_cons | apply List.Sublist.cons))⟩, (fC (by first | rfl | exact congrArg (Value.int _) (by first | omega | assumption | (symm; assumption) | (simp; done) | (simp; omega)) | exact congrArg (fun n => Value.slice _ n _) (by first | omega | (simp; done) | (simp; omega))) (fC (by first | rfl | exact congrArg (Value.int _) (by first | omega | assumption | (symm; assumption) | (simp; done) | (simp; omega)) | exact congrArg (fun n => Value.slice _ n _) (by first | omega | (simp; done) | (simp; omega))) (fN _))), (by repeat (first | exact Agree.setL rfl Agree.mask | exact Agree.self _ _ | refine Agree.upd rfl ?_ | refine Agree.setL rfl ?_ | refine Agree.mask2 rfl ?_))⟩
  ·refine ex ?_
   refine then_e ?_
   refine loop_e ?_
   refine in_hit rfl ?_
   refine then_n ?_
   refine sq ?_
   refine rg ?_
   refine mv (v := .slice _ _ _) rfl rfl ?_
   refine fa rfl fo24_0 rfl ?_
   refine st (v := .slice _ _ _) H rfl rfl sc22 rfl (by show 0 + 0 < 5; decide) (by omega) ?_
   intro w95 H1 F; replace O := O.put F H1.look; clear H H1 F; have H := O.sh
   refine nl ?_
   refine then_n ?_
   refine sq ?_
   refine rg ?_
   refine la (vs := gtCells D2 (keepP (ps.take i)).length cap2 512 g pr rc) H rfl ag24_5 rfl rfl rfl ?_
   refine sa (cs' := gtCells D2 (keepP (ps.take i)).length cap2 512 g pr rc) H rfl rfl ag24_5 rfl rfl (by show 0 + 5 ≤ 5; decide) (by omega) rfl ?_
   intro w96 H96 F96; replace O := O.put F96 H96.look; clear H H96 F96; have H := O.sh
   refine nl ?_
   refine then_n ?_
   refine rt ?_
   refine finR_r ?_
   obtain rfl : i = m := by omega
   rw [List.take_of_length_le (by omega)] at O H
   exact ⟨[_], ⟨finC rfl (H.look (b := b2)) ag24_5, trivial⟩, _, _, rfl, O.sub (List.nil_sublist _)⟩

end Go.Proofs.YthcaejaaalkglaaGreatDoor.X

/- Walks of functions, printed by a program of this claim. -/
namespace Go.Proofs.YthcaejaaalkglaaGreatDoor.X
set_option linter.unusedVariables false
set_option linter.unusedSimpArgs false
open Go Go.RowKit

namespace PF
theorem pl24_0 : placeOf Tryz.prog 24 0 = some (0, 1) := by kernel_rfl
end PF
open PF

set_option maxRecDepth 100000 in
set_option maxHeartbeats 1000000 in
theorem c_small (w : World)  : Calls Tryz.prog 26 #[] w (Ret fun v w' => ∃ D cap, v = .agg (gtCells D 1 cap 512 gS true false).toArray ∧ OR 54 8 w [] w' [] D 1 cap pS.cells) := by
 refine enterR [.cell 0 24] Tryz.func26 rfl rfl rfl rfl ?_
 have H := SH.nil w
 refine sq ?_
 refine rg ?_
 refine al H ze24 rfl ?_
 clear H; intro b1 w1 hb1 H _
 refine nl ?_
 refine then_n ?_
 refine sq ?_
 refine rg ?_
 refine bu (out := ?o1) ze54 bo54 ?f1 rfl ?_
 case f1 =>
  refine FL.one (v := .int .i64 _) rfl pl54_0 rfl (by first | decide | simp) ?_
  refine FL.one (v := .int .u64 _) rfl pl54_1 rfl (by first | decide | simp) ?_
  refine FL.one (v := .int .u64 _) rfl pl54_2 rfl (by first | decide | simp) ?_
  refine FL.one (v := .int .u64 _) rfl pl54_3 rfl (by first | decide | simp) ?_
  refine FL.one (v := .string _) rfl pl54_4 rfl (by first | decide | simp) ?_
  refine FL.one (v := .string _) rfl pl54_5 rfl (by first | decide | simp) ?_
  refine FL.one (v := .string _) rfl pl54_6 rfl (by first | decide | simp) ?_
  exact FL.nil
 refine bsl (sz := 8) (out := ?o2) H Tryz.underlying22 ze54 sz54_8 (by decide) ?f2 rfl ?_
 case f2 =>
  refine FS.agg (vs := _) rfl rfl (by first | decide | simp) ?_
  exact FS.nil
 clear H; intro b2 w2 hb2 H F
 refine bu (out := ?o3) ze24 bo24 ?f3 rfl ?_
 case f3 =>
  refine FL.one (v := .int .i64 _) rfl pl24_1 rfl (by first | decide | simp) ?_
  refine FL.one (v := .string _) rfl pl24_2 rfl (by first | decide | simp) ?_
  refine FL.one (v := .bool _) rfl pl24_3 rfl (by first | decide | simp) ?_
  refine FL.one (v := .slice _ _ _) rfl pl24_0 rfl (by first | decide | simp) ?_
  exact FL.nil
 refine sa H rfl rfl ag24_5 rfl rfl (by decide) (by omega) rfl ?_
 clear H; intro w3 H _
 refine nl ?_
 refine then_n ?_
 refine rt ?_
 refine finR_r ?_
 have H2 : SH w [] w3 [⟨b2, .cells pS.cells.toArray 54 (0, 0), true⟩] := H.sub (by repeat (first | exact List.Sublist.refl _ | exact List.nil_sublist _ | apply List.Sublist.cons_cons | apply List.Sublist.cons))
 exact ⟨[_], ⟨finC rfl (H.look (b := b1)) ag24_5, trivial⟩, some ⟨b2, 0, none⟩, 1, rfl, OR.made (n := 1) (cap := 1) (cur := pS.cells) H2 (by decide) (by decide) rfl⟩

end Go.Proofs.YthcaejaaalkglaaGreatDoor.X

/- What is read of a disk that the statements have laid. -/
namespace Go.Proofs.YthcaejaaalkglaaGreatDoor.X
set_option linter.unusedVariables false
set_option linter.unusedSimpArgs false
open Go
theorem pcs_in {cur es : List UInt8} {o k : Nat} (hk : es.length = k) (h : o + k ≤ cur.length) : pcs (pAt cur o es) o k = es := by
  unfold pcs pAt
  have ht : (cur.take o).length = o := by simp; omega
  rw [List.append_assoc, List.drop_append, List.drop_of_length_le (by omega), List.nil_append, ht, Nat.sub_self, List.drop_zero, List.take_append, hk, Nat.sub_self, List.take_zero, List.append_nil, List.take_of_length_le (by omega)]
theorem pcs_lo {cur es : List UInt8} {o p k : Nat} (h : o + es.length ≤ cur.length) (hp : p + k ≤ o) : pcs (pAt cur o es) p k = pcs cur p k := by
  refine List.ext_getElem? fun i => ?_
  simp only [pcs, List.getElem?_take, List.getElem?_drop]
  split
  · unfold pAt
    rw [List.append_assoc, List.getElem?_append_left (by simp; omega), List.getElem?_take, if_pos (by omega)]
  · rfl
theorem pcs_hi {cur es : List UInt8} {o p k : Nat} (h : o + es.length ≤ cur.length) (hp : o + es.length ≤ p) : pcs (pAt cur o es) p k = pcs cur p k := by
  unfold pcs pAt
  have ht : (cur.take o).length = o := by simp; omega
  rw [List.drop_append, List.length_append, ht, List.drop_of_length_le (by simp; omega), List.nil_append, List.drop_drop]
  congr 2; omega
section enc
variable {ds : List UInt8} {n : Nat} {gu : List UInt8} {ps : List GP}
/-- The header's sectors, and the arrays, of a disk that was laid. -/
def encHdr (n : Nat) (gu : List UInt8) (ps : List GP) : List UInt8 := hdrB 1 ((n : Int) - 1) 2 n (gB gu) (crc32 (arrB ps))
def encHdr2 (n : Nat) (gu : List UInt8) (ps : List GP) : List UInt8 := hdrB ((n : Int) - 1) 1 ((n : Int) - 33) n (gB gu) (crc32 (arrB ps))
theorem enc_at (hn : 80 ≤ n) (hd : ds.length = n * 512) (hf : ∀ p ∈ ps, p.fits) (hm : (mbrB ds (protM n)).length = ds.length) :
    pcs (encB ds n gu ps) 512 512 = encHdr n gu ps ∧ pcs (encB ds n gu ps) 1024 16384 = arrB ps ∧ pcs (encB ds n gu ps) ((n - 33) * 512) 16384 = arrB ps ∧ pcs (encB ds n gu ps) ((n - 1) * 512) 512 = encHdr2 n gu ps ∧ pcs (encB ds n gu ps) 0 512 = pcs (mbrB ds (protM n)) 0 512 := by
  have ha : (arrB ps).length = 16384 := arrB_len hf
  have h1 : (encHdr n gu ps).length = 512 := hdrB_len (gB_len gu)
  have h2 : (encHdr2 n gu ps).length = 512 := hdrB_len (gB_len gu)
  have e : encB ds n gu ps = pAt (pAt (pAt (pAt (mbrB ds (protM n)) 512 (encHdr n gu ps)) 1024 (arrB ps)) ((n - 33) * 512) (arrB ps)) ((n - 1) * 512) (encHdr2 n gu ps) := rfl
  have l1 : (pAt (mbrB ds (protM n)) 512 (encHdr n gu ps)).length = n * 512 := by rw [pAt_len (by omega)]; omega
  have l2 : (pAt (pAt (mbrB ds (protM n)) 512 (encHdr n gu ps)) 1024 (arrB ps)).length = n * 512 := by rw [pAt_len (by omega)]; omega
  have l3 : (pAt (pAt (pAt (mbrB ds (protM n)) 512 (encHdr n gu ps)) 1024 (arrB ps)) ((n - 33) * 512) (arrB ps)).length = n * 512 := by rw [pAt_len (by omega)]; omega
  rw [e]
  refine ⟨?_, ?_, ?_, ?_, ?_⟩
  · rw [pcs_lo (by omega) (by omega), pcs_lo (by omega) (by omega), pcs_lo (by omega) (by omega), pcs_in h1 (by omega)]
  · rw [pcs_lo (by omega) (by omega), pcs_lo (by omega) (by omega), pcs_in ha (by omega)]
  · rw [pcs_lo (by omega) (by omega), pcs_in ha (by omega)]
  · rw [pcs_in h2 (by omega)]
  · rw [pcs_lo (by omega) (by omega), pcs_lo (by omega) (by omega), pcs_lo (by omega) (by omega), pcs_lo (by omega) (by omega)]
end enc
theorem pcs_mid {xs ys zs : List UInt8} {p k : Nat} (hp : xs.length = p) (hk : ys.length = k) : pcs (xs ++ (ys ++ zs)) p k = ys := by
  unfold pcs
  rw [List.drop_append, List.drop_of_length_le (by omega), List.nil_append, hp, Nat.sub_self, List.drop_zero, List.take_append, hk, Nat.sub_self, List.take_zero, List.append_nil, List.take_of_length_le (by omega)]
theorem pAt_mid {xs ys zs es : List UInt8} {p : Nat} (hp : xs.length = p) (hk : es.length = ys.length) : pAt (xs ++ (ys ++ zs)) p es = xs ++ (es ++ zs) := by
  unfold pAt
  rw [List.take_append, hp, Nat.sub_self, List.take_zero, List.append_nil, List.take_of_length_le (by omega), hk, ← hp, List.drop_append, List.drop_of_length_le (by omega), List.nil_append, Nat.add_sub_cancel_left, List.drop_left, List.append_assoc]
section hdr
variable {s a o e n c : Int} {gu : List UInt8} {r : List UInt8}
theorem hf0 (h : gu.length = 16) : pcs (hdrS s a o e n gu c ++ r) 0 8 = efiL := by
  have e1 : hdrS s a o e n gu c ++ r = (([] : List UInt8)) ++ ((efiL) ++ (leB 4 65536 ++ (leB 4 92 ++ (leB 4 s ++ ([0, 0, 0, 0] ++ (leB 8 a ++ (leB 8 o ++ (leB 8 34 ++ (leB 8 (n - 34) ++ (gu ++ (leB 8 e ++ (leB 4 128 ++ (leB 4 128 ++ (leB 4 c ++ (r))))))))))))))) := by
    unfold hdrS; simp only [List.append_assoc, List.nil_append]
  rw [e1]
  exact pcs_mid (by simp only [List.length_append, leB_len, h, efiL, List.length_cons, List.length_nil]) (by simp only [leB_len, h, efiL, List.length_cons, List.length_nil])
theorem hf8 (h : gu.length = 16) : pcs (hdrS s a o e n gu c ++ r) 8 4 = leB 4 65536 := by
  have e1 : hdrS s a o e n gu c ++ r = (efiL) ++ ((leB 4 65536) ++ (leB 4 92 ++ (leB 4 s ++ ([0, 0, 0, 0] ++ (leB 8 a ++ (leB 8 o ++ (leB 8 34 ++ (leB 8 (n - 34) ++ (gu ++ (leB 8 e ++ (leB 4 128 ++ (leB 4 128 ++ (leB 4 c ++ (r)))))))))))))) := by
    unfold hdrS; simp only [List.append_assoc, List.nil_append]
  rw [e1]
  exact pcs_mid (by simp only [List.length_append, leB_len, h, efiL, List.length_cons, List.length_nil]) (by simp only [leB_len, h, efiL, List.length_cons, List.length_nil])
theorem hf12 (h : gu.length = 16) : pcs (hdrS s a o e n gu c ++ r) 12 4 = leB 4 92 := by
  have e1 : hdrS s a o e n gu c ++ r = (efiL ++ leB 4 65536) ++ ((leB 4 92) ++ (leB 4 s ++ ([0, 0, 0, 0] ++ (leB 8 a ++ (leB 8 o ++ (leB 8 34 ++ (leB 8 (n - 34) ++ (gu ++ (leB 8 e ++ (leB 4 128 ++ (leB 4 128 ++ (leB 4 c ++ (r))))))))))))) := by
    unfold hdrS; simp only [List.append_assoc, List.nil_append]
  rw [e1]
  exact pcs_mid (by simp only [List.length_append, leB_len, h, efiL, List.length_cons, List.length_nil]) (by simp only [leB_len, h, efiL, List.length_cons, List.length_nil])
theorem hf16 (h : gu.length = 16) : pcs (hdrS s a o e n gu c ++ r) 16 4 = leB 4 s := by
  have e1 : hdrS s a o e n gu c ++ r = (efiL ++ leB 4 65536 ++ leB 4 92) ++ ((leB 4 s) ++ ([0, 0, 0, 0] ++ (leB 8 a ++ (leB 8 o ++ (leB 8 34 ++ (leB 8 (n - 34) ++ (gu ++ (leB 8 e ++ (leB 4 128 ++ (leB 4 128 ++ (leB 4 c ++ (r)))))))))))) := by
    unfold hdrS; simp only [List.append_assoc, List.nil_append]
  rw [e1]
  exact pcs_mid (by simp only [List.length_append, leB_len, h, efiL, List.length_cons, List.length_nil]) (by simp only [leB_len, h, efiL, List.length_cons, List.length_nil])
theorem hf20 (h : gu.length = 16) : pcs (hdrS s a o e n gu c ++ r) 20 4 = [0, 0, 0, 0] := by
  have e1 : hdrS s a o e n gu c ++ r = (efiL ++ leB 4 65536 ++ leB 4 92 ++ leB 4 s) ++ (([0, 0, 0, 0]) ++ (leB 8 a ++ (leB 8 o ++ (leB 8 34 ++ (leB 8 (n - 34) ++ (gu ++ (leB 8 e ++ (leB 4 128 ++ (leB 4 128 ++ (leB 4 c ++ (r))))))))))) := by
    unfold hdrS; simp only [List.append_assoc, List.nil_append]
  rw [e1]
  exact pcs_mid (by simp only [List.length_append, leB_len, h, efiL, List.length_cons, List.length_nil]) (by simp only [leB_len, h, efiL, List.length_cons, List.length_nil])
theorem hf24 (h : gu.length = 16) : pcs (hdrS s a o e n gu c ++ r) 24 8 = leB 8 a := by
  have e1 : hdrS s a o e n gu c ++ r = (efiL ++ leB 4 65536 ++ leB 4 92 ++ leB 4 s ++ [0, 0, 0, 0]) ++ ((leB 8 a) ++ (leB 8 o ++ (leB 8 34 ++ (leB 8 (n - 34) ++ (gu ++ (leB 8 e ++ (leB 4 128 ++ (leB 4 128 ++ (leB 4 c ++ (r)))))))))) := by
    unfold hdrS; simp only [List.append_assoc, List.nil_append]
  rw [e1]
  exact pcs_mid (by simp only [List.length_append, leB_len, h, efiL, List.length_cons, List.length_nil]) (by simp only [leB_len, h, efiL, List.length_cons, List.length_nil])
theorem hf32 (h : gu.length = 16) : pcs (hdrS s a o e n gu c ++ r) 32 8 = leB 8 o := by
  have e1 : hdrS s a o e n gu c ++ r = (efiL ++ leB 4 65536 ++ leB 4 92 ++ leB 4 s ++ [0, 0, 0, 0] ++ leB 8 a) ++ ((leB 8 o) ++ (leB 8 34 ++ (leB 8 (n - 34) ++ (gu ++ (leB 8 e ++ (leB 4 128 ++ (leB 4 128 ++ (leB 4 c ++ (r))))))))) := by
    unfold hdrS; simp only [List.append_assoc, List.nil_append]
  rw [e1]
  exact pcs_mid (by simp only [List.length_append, leB_len, h, efiL, List.length_cons, List.length_nil]) (by simp only [leB_len, h, efiL, List.length_cons, List.length_nil])
theorem hf48 (h : gu.length = 16) : pcs (hdrS s a o e n gu c ++ r) 48 8 = leB 8 (n - 34) := by
  have e1 : hdrS s a o e n gu c ++ r = (efiL ++ leB 4 65536 ++ leB 4 92 ++ leB 4 s ++ [0, 0, 0, 0] ++ leB 8 a ++ leB 8 o ++ leB 8 34) ++ ((leB 8 (n - 34)) ++ (gu ++ (leB 8 e ++ (leB 4 128 ++ (leB 4 128 ++ (leB 4 c ++ (r))))))) := by
    unfold hdrS; simp only [List.append_assoc, List.nil_append]
  rw [e1]
  exact pcs_mid (by simp only [List.length_append, leB_len, h, efiL, List.length_cons, List.length_nil]) (by simp only [leB_len, h, efiL, List.length_cons, List.length_nil])
theorem hf56 (h : gu.length = 16) : pcs (hdrS s a o e n gu c ++ r) 56 16 = gu := by
  have e1 : hdrS s a o e n gu c ++ r = (efiL ++ leB 4 65536 ++ leB 4 92 ++ leB 4 s ++ [0, 0, 0, 0] ++ leB 8 a ++ leB 8 o ++ leB 8 34 ++ leB 8 (n - 34)) ++ ((gu) ++ (leB 8 e ++ (leB 4 128 ++ (leB 4 128 ++ (leB 4 c ++ (r)))))) := by
    unfold hdrS; simp only [List.append_assoc, List.nil_append]
  rw [e1]
  exact pcs_mid (by simp only [List.length_append, leB_len, h, efiL, List.length_cons, List.length_nil]) (by simp only [leB_len, h, efiL, List.length_cons, List.length_nil])
theorem hf72 (h : gu.length = 16) : pcs (hdrS s a o e n gu c ++ r) 72 8 = leB 8 e := by
  have e1 : hdrS s a o e n gu c ++ r = (efiL ++ leB 4 65536 ++ leB 4 92 ++ leB 4 s ++ [0, 0, 0, 0] ++ leB 8 a ++ leB 8 o ++ leB 8 34 ++ leB 8 (n - 34) ++ gu) ++ ((leB 8 e) ++ (leB 4 128 ++ (leB 4 128 ++ (leB 4 c ++ (r))))) := by
    unfold hdrS; simp only [List.append_assoc, List.nil_append]
  rw [e1]
  exact pcs_mid (by simp only [List.length_append, leB_len, h, efiL, List.length_cons, List.length_nil]) (by simp only [leB_len, h, efiL, List.length_cons, List.length_nil])
theorem hf80 (h : gu.length = 16) : pcs (hdrS s a o e n gu c ++ r) 80 4 = leB 4 128 := by
  have e1 : hdrS s a o e n gu c ++ r = (efiL ++ leB 4 65536 ++ leB 4 92 ++ leB 4 s ++ [0, 0, 0, 0] ++ leB 8 a ++ leB 8 o ++ leB 8 34 ++ leB 8 (n - 34) ++ gu ++ leB 8 e) ++ ((leB 4 128) ++ (leB 4 128 ++ (leB 4 c ++ (r)))) := by
    unfold hdrS; simp only [List.append_assoc, List.nil_append]
  rw [e1]
  exact pcs_mid (by simp only [List.length_append, leB_len, h, efiL, List.length_cons, List.length_nil]) (by simp only [leB_len, h, efiL, List.length_cons, List.length_nil])
theorem hf84 (h : gu.length = 16) : pcs (hdrS s a o e n gu c ++ r) 84 4 = leB 4 128 := by
  have e1 : hdrS s a o e n gu c ++ r = (efiL ++ leB 4 65536 ++ leB 4 92 ++ leB 4 s ++ [0, 0, 0, 0] ++ leB 8 a ++ leB 8 o ++ leB 8 34 ++ leB 8 (n - 34) ++ gu ++ leB 8 e ++ leB 4 128) ++ ((leB 4 128) ++ (leB 4 c ++ (r))) := by
    unfold hdrS; simp only [List.append_assoc, List.nil_append]
  rw [e1]
  exact pcs_mid (by simp only [List.length_append, leB_len, h, efiL, List.length_cons, List.length_nil]) (by simp only [leB_len, h, efiL, List.length_cons, List.length_nil])
theorem hf88 (h : gu.length = 16) : pcs (hdrS s a o e n gu c ++ r) 88 4 = leB 4 c := by
  have e1 : hdrS s a o e n gu c ++ r = (efiL ++ leB 4 65536 ++ leB 4 92 ++ leB 4 s ++ [0, 0, 0, 0] ++ leB 8 a ++ leB 8 o ++ leB 8 34 ++ leB 8 (n - 34) ++ gu ++ leB 8 e ++ leB 4 128 ++ leB 4 128) ++ ((leB 4 c) ++ (r)) := by
    unfold hdrS; simp only [List.append_assoc, List.nil_append]
  rw [e1]
  exact pcs_mid (by simp only [List.length_append, leB_len, h, efiL, List.length_cons, List.length_nil]) (by simp only [leB_len, h, efiL, List.length_cons, List.length_nil])
theorem hz (h : gu.length = 16) : zHdr (hdrS s a o e n gu c) = hdrS 0 a o e n gu c := by
  have e1 : ∀ t : Int, hdrS t a o e n gu c = (efiL ++ leB 4 65536 ++ leB 4 92) ++ (leB 4 t ++ ([0, 0, 0, 0] ++ leB 8 a ++ leB 8 o ++ leB 8 34 ++ leB 8 (n - 34) ++ gu ++ leB 8 e ++ leB 4 128 ++ leB 4 128 ++ leB 4 c)) := fun t => by
    unfold hdrS; simp only [List.append_assoc]
  unfold zHdr
  rw [e1, pAt_mid (by simp only [List.length_append, leB_len, efiL, List.length_cons, List.length_nil]) (by simp only [leB_len, List.length_cons, List.length_nil]), e1]
  rfl
theorem hdrS_rng (bs : List UInt8) : 0 ≤ crc32 bs ∧ crc32 bs < 4294967296 := by have := crc32_rng bs; omega
/-- A header that the statements have laid passes, and says what it says. -/
theorem laid_hdr {D : List UInt8} {A : Nat} (hp : pcs D A 512 = hdrB a o e n gu c) (h : gu.length = 16) (ha : 0 ≤ a ∧ a < 4294967296) (ho : 0 ≤ o ∧ o < 4294967296) (he : 0 ≤ e ∧ e < 4294967296) (hn : 34 ≤ n ∧ n < 4294967296) (hc : 0 ≤ c ∧ c < 4294967296) :
    hdrGood D A = true ∧ (fld D (A + 72) 8 = e ∧ fld D (A + 80) 4 = 128 ∧ fld D (A + 84) 4 = 128) ∧ fld D (A + 88) 4 = c ∧ fld D (A + 24) 8 = a ∧ fld D (A + 32) 8 = o ∧ fld D (A + 48) 8 = n - 34 ∧ pcs D (A + 56) 16 = gu ∧ sigOk D A = true ∧ crcOk D A = true := by
  have P : ∀ p k, p + k ≤ 512 → pcs D (A + p) k = pcs (hdrB a o e n gu c) p k := fun p k hk => by rw [← hp, pcsA hk]
  have F : ∀ p k, p + k ≤ 512 → fld D (A + p) k = leV (pcs (hdrB a o e n gu c) p k) := fun p k hk => by unfold fld; rw [P p k hk]
  have L8 : ∀ v : Int, 0 ≤ v ∧ v < 4294967296 → leV (leB 8 v) = v := fun v hv => leV_leB 8 hv.1 (by have : (256 : Int) ^ 8 = 18446744073709551616 := by decide
                                                                                                    omega)
  have L4 : ∀ v : Int, 0 ≤ v ∧ v < 4294967296 → leV (leB 4 v) = v := fun v hv => leV_leB 4 hv.1 (by have : (256 : Int) ^ 4 = 4294967296 := by decide
                                                                                                    omega)
  have hs : sigOk D A = true := decide_eq_true (by have := P 0 8 (by decide); rw [Nat.add_zero] at this; rw [this]; exact hf0 h)
  have h92 : pcs D A 92 = hdrS (crc32 (hdrS 0 a o e n gu c)) a o e n gu c := by
    have h1 := P 0 92 (by decide)
    rw [Nat.add_zero] at h1
    rw [h1]
    have h2 := pcs_mid (xs := []) (ys := hdrS (crc32 (hdrS 0 a o e n gu c)) a o e n gu c) (zs := List.replicate 420 0) (p := 0) (k := 92) rfl (hdrS_len h)
    exact h2
  have hk : crcOk D A = true := decide_eq_true (by
    rw [h92, hz h, F 16 4 (by decide)]
    have : pcs (hdrB a o e n gu c) 16 4 = leB 4 (crc32 (hdrS 0 a o e n gu c)) := hf16 h
    rw [this, L4 _ (hdrS_rng _)])
  refine ⟨?_, ⟨?_, ?_, ?_⟩, ?_, ?_, ?_, ?_, ?_, hs, hk⟩
  · unfold hdrGood
    rw [hs, hk, P 8 4 (by decide), P 12 4 (by decide), P 20 4 (by decide)]
    rw [show pcs (hdrB a o e n gu c) 8 4 = leB 4 65536 from hf8 h, show pcs (hdrB a o e n gu c) 12 4 = leB 4 92 from hf12 h, show pcs (hdrB a o e n gu c) 20 4 = [0, 0, 0, 0] from hf20 h]
    rfl
  · rw [F 72 8 (by decide), show pcs (hdrB a o e n gu c) 72 8 = leB 8 e from hf72 h, L8 _ he]
  · rw [F 80 4 (by decide), show pcs (hdrB a o e n gu c) 80 4 = leB 4 128 from hf80 h]; rfl
  · rw [F 84 4 (by decide), show pcs (hdrB a o e n gu c) 84 4 = leB 4 128 from hf84 h]; rfl
  · rw [F 88 4 (by decide), show pcs (hdrB a o e n gu c) 88 4 = leB 4 c from hf88 h, L4 _ hc]
  · rw [F 24 8 (by decide), show pcs (hdrB a o e n gu c) 24 8 = leB 8 a from hf24 h, L8 _ ha]
  · rw [F 32 8 (by decide), show pcs (hdrB a o e n gu c) 32 8 = leB 8 o from hf32 h, L8 _ ho]
  · rw [F 48 8 (by decide), show pcs (hdrB a o e n gu c) 48 8 = leB 8 (n - 34) from hf48 h, L8 _ (by omega)]
  · rw [P 56 16 (by decide)]; exact hf56 h
/-- .. and its claims fit. -/
theorem laid_fits {D : List UInt8} {A : Nat} (h1 : fld D (A + 72) 8 < 4194304) (h2 : fld D (A + 80) 4 = 128) (h3 : fld D (A + 84) 4 = 128) : fitsB D 512 A = true := by
  unfold fitsB
  rw [h2, h3, decide_eq_true (p := fld D (A + 72) 8 < 2147483648 / ((512 : Nat) : Int)) (by omega)]
  simp
end hdr
end Go.Proofs.YthcaejaaalkglaaGreatDoor.X

/- What is read of an array that the statements have laid. -/
namespace Go.Proofs.YthcaejaaalkglaaGreatDoor.X
set_option linter.unusedVariables false
set_option linter.unusedSimpArgs false
open Go
/-- An entry, with its zeros. -/
def padE (p : GP) : List UInt8 := entB p ++ List.replicate (128 - (entB p).length) 0
theorem entB_le {p : GP} (h : p.fits) : (entB p).length ≤ 128 := by
  obtain ⟨_, _, h3⟩ := h
  rw [entB_len]; omega
theorem padE_len {p : GP} (h : p.fits) : (padE p).length = 128 := by
  have := entB_le h
  unfold padE; rw [List.length_append, List.length_replicate]; omega
theorem entA_other {a : List UInt8} {p : GP} {j : Nat} (ha : a.length = 16384) (hf : p.fits) (hj : j < 128) (hne : j ≠ (p.ix - 1).toNat) : entA (arrP a p) j = entA a j := by
  have hl := entB_le hf
  obtain ⟨f1, f2, f3⟩ := hf
  unfold entA arrP
  rcases Nat.lt_or_gt_of_ne hne with h | h
  · exact pcs_lo (by omega) (by omega)
  · exact pcs_hi (by omega) (by omega)
theorem entA_zero {j : Nat} (hj : j < 128) : entA (List.replicate 16384 0) j = List.replicate 128 0 := by
  unfold entA pcs
  rw [List.drop_replicate, List.take_replicate]
  congr 1; omega
theorem entA_same {a : List UInt8} {p : GP} {j : Nat} (ha : a.length = 16384) (hf : p.fits) (hj : j = (p.ix - 1).toNat) (hz : entA a j = List.replicate 128 0) : entA (arrP a p) j = padE p := by
  have hl := entB_le hf
  obtain ⟨f1, f2, f3⟩ := hf
  subst hj
  have h0 : pcs (arrP a p) (128 * (p.ix - 1).toNat) (entB p).length = entB p := pcs_in rfl (by omega)
  have h1 : pcs (arrP a p) (128 * (p.ix - 1).toNat + (entB p).length) (128 - (entB p).length) = List.replicate (128 - (entB p).length) 0 := by
    unfold arrP
    rw [pcs_hi (by omega) (by omega), ← pcsA (n := 128) (by omega)]
    have : pcs a (128 * (p.ix - 1).toNat) 128 = List.replicate 128 0 := hz
    rw [this]
    unfold pcs
    rw [List.drop_replicate, List.take_replicate]
    congr 1; omega
  unfold entA padE
  rw [← h1]
  have hs : ∀ (bs : List UInt8) (o i k : Nat), pcs bs o (i + k) = pcs bs o i ++ pcs bs (o + i) k := fun bs o i k => by
    unfold pcs
    rw [List.take_add, List.drop_drop]
  have e := hs (arrP a p) (128 * (p.ix - 1).toNat) (entB p).length (128 - (entB p).length)
  rw [show (entB p).length + (128 - (entB p).length) = 128 by omega, h0] at e
  exact e
/-- The array's entries, when the places differ. -/
theorem entA_fold : ∀ (ps : List GP) (a : List UInt8), a.length = 16384 → (∀ p ∈ ps, p.fits) → (∀ j, j < 128 → (∀ p ∈ ps, (p.ix - 1).toNat ≠ j) → entA (ps.foldl arrP a) j = entA a j)
  | [], a, ha, hf, j, hj, hn => rfl
  | p :: r, a, ha, hf, j, hj, hn => by
    rw [List.foldl_cons, entA_fold r _ (arrP_len ha (hf p (.head _))) (fun q hq => hf q (.tail _ hq)) j hj (fun q hq => hn q (.tail _ hq))]
    exact entA_other ha (hf p (.head _)) hj (fun h => hn p (.head _) h.symm)
theorem entA_free {ps : List GP} {j : Nat} (hf : ∀ p ∈ ps, p.fits) (hj : j < 128) (hn : ∀ p ∈ ps, (p.ix - 1).toNat ≠ j) : entA (arrB ps) j = List.replicate 128 0 := by
  unfold arrB
  rw [entA_fold ps _ List.length_replicate hf j hj hn, entA_zero hj]
theorem entA_at : ∀ (ps : List GP) (a : List UInt8) (p : GP), a.length = 16384 → (∀ q ∈ ps, q.fits) → p ∈ ps → ps.Pairwise (fun x y => x.ix ≠ y.ix) → entA a (p.ix - 1).toNat = List.replicate 128 0 → entA (ps.foldl arrP a) (p.ix - 1).toNat = padE p
  | [], a, p, ha, hf, hp, hd, hz => absurd hp (by simp)
  | q :: r, a, p, ha, hf, hp, hd, hz => by
    rw [List.foldl_cons]
    rw [List.pairwise_cons] at hd
    have hfq := hf q (.head _)
    rcases List.mem_cons.1 hp with rfl | hp
    · have h128 : (p.ix - 1).toNat < 128 := by have := hfq.1; have := hfq.2.1; omega
      rw [entA_fold r _ (arrP_len ha hfq) (fun x hx => hf x (.tail _ hx)) _ h128 (fun x hx h => hd.1 x hx (by
        have h1 := (hf x (.tail _ hx)).1; have h2 := hfq.1; omega))]
      exact entA_same ha hfq rfl hz
    · have hfp := hf p (.tail _ hp)
      refine entA_at r _ p (arrP_len ha hfq) (fun x hx => hf x (.tail _ hx)) hp hd.2 ?_
      rw [entA_other ha hfq (by have := hfp.1; have := hfp.2.1; omega) (fun h => hd.1 p hp (by have h1 := hfp.1; have h2 := hfq.1; omega))]
      exact hz
/-- What an entry says. -/
theorem padE_eq (p : GP) : ∃ r, padE p = gB p.ty ++ (gB p.gu ++ (leB 8 p.st ++ (leB 8 p.en ++ (leB 8 p.att ++ (entN p.nm ++ r))))) := ⟨List.replicate (128 - (entB p).length) 0, by
  have e : padE p = entB p ++ List.replicate (128 - (entB p).length) 0 := rfl
  rw [e]
  generalize List.replicate (128 - (entB p).length) (0 : UInt8) = r
  unfold entB entH; simp only [List.append_assoc]⟩
theorem leV8 {v : Int} (h : 0 ≤ v ∧ v ≤ 18446744073709551615) : leV (leB 8 v) = v := leV_leB 8 h.1 (by
  have : (256 : Int) ^ 8 = 18446744073709551616 := by decide
  omega)
theorem pad_fields {p : GP} (h : p.ok) : pcs (padE p) 0 16 = gB p.ty ∧ pcs (padE p) 16 16 = gB p.gu ∧ fld (padE p) 32 8 = p.st ∧ fld (padE p) 40 8 = p.en ∧ fld (padE p) 48 8 = p.att := by
  obtain ⟨r, e⟩ := padE_eq p
  have e1 : padE p = gB p.ty ++ (gB p.gu ++ (leB 8 p.st ++ (leB 8 p.en ++ (leB 8 p.att ++ (entN p.nm ++ r))))) := e
  have e2 : padE p = (gB p.ty ++ gB p.gu) ++ (leB 8 p.st ++ (leB 8 p.en ++ (leB 8 p.att ++ (entN p.nm ++ r)))) := by rw [e]; simp only [List.append_assoc]
  have e3 : padE p = (gB p.ty ++ gB p.gu ++ leB 8 p.st) ++ (leB 8 p.en ++ (leB 8 p.att ++ (entN p.nm ++ r))) := by rw [e]; simp only [List.append_assoc]
  have e4 : padE p = (gB p.ty ++ gB p.gu ++ leB 8 p.st ++ leB 8 p.en) ++ (leB 8 p.att ++ (entN p.nm ++ r)) := by rw [e]; simp only [List.append_assoc]
  refine ⟨?_, ?_, ?_, ?_, ?_⟩
  · rw [e1]; exact pcs_mid (xs := []) rfl (gB_len _)
  · rw [e1]; exact pcs_mid (gB_len _) (gB_len _)
  · unfold fld; rw [e2, pcs_mid (by simp only [List.length_append, gB_len]) (leB_len 8 _)]; exact leV8 h.st
  · unfold fld; rw [e3, pcs_mid (by simp only [List.length_append, gB_len, leB_len]) (leB_len 8 _)]; exact leV8 h.en
  · unfold fld; rw [e4, pcs_mid (by simp only [List.length_append, gB_len, leB_len]) (leB_len 8 _)]; exact leV8 h.att
end Go.Proofs.YthcaejaaalkglaaGreatDoor.X

/- The small table, laid and read. -/
namespace Go.Proofs.YthcaejaaalkglaaGreatDoor.X
set_option linter.unusedVariables false
open Go
theorem usedP_one {ar : List UInt8} (h0 : freeE (entA ar 0) = false) (hr : ∀ j, 0 < j → j < 128 → freeE (entA ar j) = true) : ∀ m, m + 1 ≤ 128 → usedP ar (m + 1) = [gpE 1 (entA ar 0)]
  | 0, _ => by
    unfold usedP
    simp [List.range_succ, useP, h0]
  | m + 1, h => by
    have ih := usedP_one h0 hr m (by omega)
    unfold usedP at ih ⊢
    rw [List.range_succ, List.filterMap_append, ih]
    simp [useP, hr (m + 1) (by omega) (by omega)]
theorem pS_fits : pS.fits := ⟨by decide, by decide, by decide +kernel⟩
theorem pS_fit : pS.fit := ⟨by decide, by decide, by decide⟩
theorem small_used : usedP (arrB [pS]) 128 = [gpE 1 (padE pS)] := by
  have hf : ∀ p ∈ [pS], p.fits := fun p hp => by
    obtain rfl : p = pS := by simpa using hp
    exact pS_fits
  have h0 : entA (arrB [pS]) 0 = padE pS := entA_at [pS] _ pS List.length_replicate hf (by simp) (by simp) (entA_zero (by decide))
  have h1 : freeE (entA (arrB [pS]) 0) = false := by rw [h0]; decide +kernel
  rw [usedP_one h1 (fun j hj h => by
    rw [entA_free hf h (fun p hp e => by
      obtain rfl : p = pS := by simpa using hp
      have : (pS.ix - 1).toNat = 0 := rfl
      omega)]
    decide +kernel) 127 (by decide), h0]
theorem small_keep : keepP [gpE 1 (padE pS)] = [gpE 1 (padE pS)] := by
  have h : sameG (gpE 1 (padE pS)).ty zG = false := by decide +kernel
  simp [keepP, h]
theorem small_same : sameT (gT (gB gS)) gS [gpE 1 (padE pS)] [pS] = true := by decide +kernel
theorem small_ok : (gpE 1 (padE pS)).ok := by
  obtain ⟨h1, h2, h3, h4, h5⟩ := pad_fields pS_ok
  exact ⟨by decide, by show 0 ≤ fld _ 32 8 ∧ _; rw [h3]; exact pS_ok.st, by show 0 ≤ fld _ 40 8 ∧ _; rw [h4]; exact pS_ok.en, by show 0 ≤ szE _ ∧ _; unfold szE; rw [h3, h4]; decide, by show 0 ≤ fld _ 48 8 ∧ _; rw [h5]; exact pS_ok.att⟩
end Go.Proofs.YthcaejaaalkglaaGreatDoor.X

/- A disk that the statements have laid, as the package reads it. -/
namespace Go.Proofs.YthcaejaaalkglaaGreatDoor.X
set_option linter.unusedVariables false
open Go
theorem prot_len {ds : List UInt8} {n : Nat} (hd : ds.length = n * 512) (hn : 80 ≤ n) : (mbrB ds (protM n)).length = ds.length := by
  unfold mbrB
  exact pAt_len (by rw [List.length_append, flat_len MP.bytes_len]; simp [protM]; omega)
theorem laid_all {ds : List UInt8} {n : Nat} {gu : List UInt8} {ps : List GP} (hn : 80 ≤ n ∧ n ≤ 1000000) (hd : ds.length = n * 512) (hf : ∀ p ∈ ps, p.fits) :
    ((hdrGood (encB ds n gu ps) 512 && decide (fld (encB ds n gu ps) 600 4 = crc32 (pcs (encB ds n gu ps) 1024 16384))) = true ∧ pcs (encB ds n gu ps) 1024 16384 = arrB ps ∧ pcs (encB ds n gu ps) 568 16 = gB gu) ∧
    (hdrGood (encB ds n gu ps) 512 = true → fld (encB ds n gu ps) 584 8 = 2 ∧ fld (encB ds n gu ps) 592 4 = 128 ∧ fld (encB ds n gu ps) 596 4 = 128) ∧
    (hdrGood (encB ds n gu ps) (512 * (n - 1)) = true → fld (encB ds n gu ps) (512 * (n - 1) + 72) 8 = ((n - 33 : Nat) : Int) ∧ fld (encB ds n gu ps) (512 * (n - 1) + 80) 4 = 128 ∧ fld (encB ds n gu ps) (512 * (n - 1) + 84) 4 = 128) ∧
    fitsB (encB ds n gu ps) 512 512 = true ∧ fitsB (encB ds n gu ps) 512 (512 * (n - 1)) = true := by
  obtain ⟨e1, e2, e3, e4, e5⟩ := enc_at (gu := gu) hn.1 hd hf (prot_len hd hn.1)
  have hc := hdrS_rng (arrB ps)
  obtain ⟨g1, ⟨f1, f2, f3⟩, f4, f5, f6, f7, f8, _⟩ := laid_hdr (D := encB ds n gu ps) (A := 512) e1 (gB_len gu) (by decide) (by omega) (by decide) (by omega) hc
  rw [Nat.mul_comm] at e4
  obtain ⟨k1, ⟨q1, q2, q3⟩, q4, q5, q6, q7, q8, _⟩ := laid_hdr (D := encB ds n gu ps) (A := 512 * (n - 1)) e4 (gB_len gu) (by omega) (by decide) (by omega) (by omega) hc
  refine ⟨⟨?_, e2, f8⟩, fun _ => ⟨f1, f2, f3⟩, fun _ => ⟨by rw [q1]; omega, q2, q3⟩, laid_fits (by rw [f1]; decide) f2 f3, laid_fits (by rw [q1]; omega) q2 q3⟩
  rw [g1, Bool.true_and, e2]
  exact decide_eq_true f4
theorem small_oks : ∀ p ∈ [pS], p.ok := fun p hp => by
  obtain rfl : p = pS := by simpa using hp
  exact pS_ok
theorem small_fits : ∀ p ∈ [pS], p.fit ∧ p.fits := fun p hp => by
  obtain rfl : p = pS := by simpa using hp
  exact ⟨pS_fit, pS_fits⟩
theorem small_fitsb : ∀ p ∈ [pS], p.fits := fun p hp => (small_fits p hp).2
theorem small_told : ∀ p ∈ [gpE 1 (padE pS)], p.ok := fun p hp => by
  obtain rfl : p = gpE 1 (padE pS) := by simpa using hp
  exact small_ok
end Go.Proofs.YthcaejaaalkglaaGreatDoor.X

/- Walks of functions, printed by a program of this claim. -/
namespace Go.Proofs.YthcaejaaalkglaaGreatDoor.X
set_option linter.unusedVariables false
set_option linter.unusedSimpArgs false
open Go Go.RowKit

namespace PF
theorem ca12 : callable Tryz.prog 12 = true := by kernel_rfl
theorem ca15 : callable Tryz.prog 15 = true := by kernel_rfl
theorem ca17 : callable Tryz.prog 17 = true := by kernel_rfl
theorem ca18 : callable Tryz.prog 18 = true := by kernel_rfl
theorem ca26 : callable Tryz.prog 26 = true := by kernel_rfl
end PF
open PF

set_option maxRecDepth 100000 in
set_option maxHeartbeats 1000000 in
theorem c_awake (w : World)  : Calls Tryz.prog 10 #[] w (Ret fun v w' => v = .bool true ∧ Fr [] w w') := by
 refine enter (fun ρ => ρ 0) Tryz.func10 rfl rfl rfl (res1 rfl) ?_
 have H := SH.nil w
 obtain ⟨⟨L1, L2, L3⟩, L4, L5, L6, L7⟩ := laid_all (ds := List.replicate 51200 0) (n := 100) (gu := gS) (ps := [pS]) (by decide) List.length_replicate small_fitsb
 refine sq ?_
 refine rg ?_
 refine asg (v := .bool _) rfl rfl ?_
 refine nl ?_
 refine then_n ?_
 refine sq ?_
 refine rg ?_
 refine mkB H rfl rfl Tryz.underlying30 mi5 (by omega) (by omega) (by omega) (by omega) rfl ?_
 clear H; intro b1 w1 hb1 H _
 refine asg (v := .slice _ _ _) rfl rfl ?_
 refine nl ?_
 refine then_n ?_
 refine sq ?_
 refine rg ?_
 refine mv (v := .slice _ _ _) rfl rfl ?_
 refine cl ca26 (c_small _) rfl ?_
 rintro _ w2 ⟨DS, cS, rfl, OS⟩
 have hRS := RG.of_own (ps := [pS]) OS small_oks
 replace H := H.keep OS.sh.fr
 refine cl ca12 (c_gptEncode _ b1 100 51200 _ (List.replicate 51200 0) _ 1 _ gS false [pS] (H.look (b := b1)) (by decide) (by decide) List.length_replicate hRS (by decide) small_fits) rfl ?_
 rintro _ w3 ⟨rfl, hlen, F, hnew⟩
 replace H := H.put (b := b1) F hnew; clear F hnew
 refine nl ?_
 refine then_n ?_
 refine sq ?_
 refine rg ?_
 refine mv (v := .slice _ _ _) rfl rfl ?_
 refine cl ca17 (c_implGptRead _ (some ⟨b1, 0, none⟩) 51200 51200 (encB (List.replicate 51200 0) 100 gS [pS]) (RB.allm (b := b1) H (by rw [hlen, List.length_replicate])) (by decide) 99 67 (by decide) (by decide) L4 L5 L6 L7) rfl ?_
 rintro _ w4 ⟨FR, v1, rfl, r1, r2⟩
 rw [L1, Bool.true_or]
 obtain ⟨DR, cR, rfl, OR1⟩ := r1 L1
 rw [L2, small_used] at OR1 ⊢
 rw [L3]
 have hRR := RG.of_own (ps := [gpE 1 (padE pS)]) OR1 small_told
 replace H := H.keep FR
 refine mv (v := .tuple _) rfl rfl ?_
 refine xt rfl rfl rfl ?_
 refine xt rfl rfl rfl ?_
 refine al H ze24 rfl ?_
 clear H; intro b2 w5 hb2 H _
 refine sa H rfl rfl ag24_5 rfl rfl (by decide) (by omega) rfl ?_
 clear H; intro w6 H _
 refine asg (v := .bool _) rfl rfl ?_
 refine nl ?_
 refine then_n ?_
 refine sq ?_
 refine rg ?_
 rename_i Fa Fb
 have FK := Fa.then Fb (by intro t ht; right; simp only [List.mem_singleton] at ht; subst ht; assumption)
 refine mv (v := .bool _) rfl rfl ?_
 refine mv (v := .bool _) rfl rfl ?_
 refine spL (t := 14) (b := true) rfl ?_
 refine gy rfl ?_
 refine la H rfl ag24_5 rfl rfl rfl ?_
 refine gy rfl ?_
 refine cl ca18 (c_used _ DR 1 cR (gT (gB gS)) _ false [gpE 1 (padE pS)] (hRR.keep FK) (by decide)) rfl ?_
 rintro _ w7 ⟨DU2, cU2, rfl, OU⟩
 rw [small_keep] at OU ⊢
 have hRU := RG.of_own (ps := [gpE 1 (padE pS)]) OU small_told
 replace H := H.keep OU.sh.fr
 refine gy rfl ?_
 refine cl ca26 (c_small _) rfl ?_
 rintro _ w8 ⟨DS, cS, rfl, OS⟩
 have hRS := RG.of_own (ps := [pS]) OS small_oks
 replace H := H.keep OS.sh.fr
 refine gy rfl ?_
 refine cl ca15 (c_sameGpt _ DU2 DS 1 cU2 1 cS (gT (gB gS)) gS _ _ _ _ [gpE 1 (padE pS)] [pS] (hRU.keep OS.sh.fr) hRS (by decide)) rfl ?_
 rintro _ w9 ⟨rfl, F⟩
 replace H := H.keep F; clear F
 rw [small_same]
 refine pkT (v := .bool _) rfl rfl rfl ?_
 refine asg (v := .bool _) rfl rfl ?_
 refine nl ?_
 refine then_n ?_
 refine rt ?_
 refine fin_r ?_
 exact ⟨rfl, H.fr⟩

end Go.Proofs.YthcaejaaalkglaaGreatDoor.X

