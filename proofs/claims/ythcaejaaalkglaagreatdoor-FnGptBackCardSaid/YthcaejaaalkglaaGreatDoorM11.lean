/- Laws and walks on the road to the statement: WrPure, P46, P47. -/
import Derived.Test.YthcaejaaalkglaaGreatDoorM10
/- A table that has been written stands on the disk. -/
namespace Go.Proofs.YthcaejaaalkglaaGreatDoor.X
set_option linter.unusedVariables false
set_option linter.unusedSimpArgs false
set_option maxRecDepth 100000
open Go Go.RowKit
/-- A sector that bears the record. -/
theorem prot_of2 {bs : List UInt8} {n : Nat} (hn : 1 ≤ n ∧ n ≤ 1000000) (h : pcs bs 446 66 = [0, 0, 0, 0, 238, 0, 0, 0, 1, 0, 0, 0] ++ (leB 4 ((n : Int) - 1) ++ (List.replicate 48 0 ++ [85, 170]))) : protB bs ((n : Int) - 1) = true := by
  have P : ∀ p k, p + k ≤ 66 → pcs bs (446 + p) k = pcs ([0, 0, 0, 0, 238, 0, 0, 0, 1, 0, 0, 0] ++ (leB 4 ((n : Int) - 1) ++ (List.replicate 48 0 ++ [85, 170]))) p k := fun p k hk => by rw [← h, pcsA hk]
  have G : ∀ p, p < 66 → bs.getD (446 + p) 0 = ([0, 0, 0, 0, 238, 0, 0, 0, 1, 0, 0, 0] ++ (leB 4 ((n : Int) - 1) ++ (List.replicate 48 0 ++ [85, 170]))).getD p 0 := fun p hp => by rw [← h, pcs_getD hp]
  have h4 : (leB 4 ((n : Int) - 1)).length = 4 := leB_len 4 _
  have hz : ∀ j, j < 3 → pcs bs (462 + 16 * j) 16 = List.replicate 16 0 := fun j hj => by
    have := P (16 + 16 * j) 16 (by omega)
    rw [show 446 + (16 + 16 * j) = 462 + 16 * j by omega] at this
    rw [this]
    unfold pcs
    rw [List.drop_append, List.drop_of_length_le (by simp; omega), List.nil_append, List.drop_append, List.drop_of_length_le (by rw [h4]; simp; omega), List.nil_append, h4]
    rw [List.drop_append_of_le_length (by simp; omega), List.take_append_of_le_length (by simp; omega), List.drop_replicate, List.take_replicate]
    congr 1
    simp; omega
  have h1 : pcs bs 510 2 = [85, 170] := by
    have := P 64 2 (by decide)
    rw [this]
    have e := pcs_mid (xs := [0, 0, 0, 0, 238, 0, 0, 0, 1, 0, 0, 0] ++ (leB 4 ((n : Int) - 1) ++ List.replicate 48 0)) (ys := [85, 170]) (zs := []) (p := 64) (k := 2) (by simp [h4]) rfl
    simpa only [List.append_assoc, List.append_nil] using e
  have h2 : rec3 bs = true := rec3_t fun j hj => by
    unfold zAll
    rw [hz j (by omega)]
    decide
  have h3 : (bs.getD 446 0).toNat = 0 := by rw [G 0 (by decide)]; rfl
  have h5 : (bs.getD 450 0).toNat = 238 := by rw [G 4 (by decide)]; rfl
  have h6 : fld bs 454 4 = 1 := by
    unfold fld; rw [P 8 4 (by decide)]
    rfl
  have h7 : fld bs 458 4 = (n : Int) - 1 := by
    have e := pcs_mid (xs := [0, 0, 0, 0, 238, 0, 0, 0, 1, 0, 0, 0]) (ys := leB 4 ((n : Int) - 1)) (zs := List.replicate 48 0 ++ [85, 170]) (p := 12) (k := 4) rfl h4
    unfold fld; rw [P 12 4 (by decide), e]
    exact leV_leB 4 (by omega) (by have : (256 : Int) ^ 4 = 4294967296 := by decide
                                   omega)
  unfold protB
  rw [decide_eq_true h1, h2, decide_eq_true h3, decide_eq_true h5, decide_eq_true h6, decide_eq_true h7]
  rfl
def genX : List UInt8 := ((pAt (List.replicate 512 0) 510 [85, 170]).set 446 (b8 0)).set 450 (b8 238)
theorem genX_len : genX.length = 512 := by decide +kernel
theorem pcs_split {bs : List UInt8} {o i k : Nat} : pcs bs o (i + k) = pcs bs o i ++ pcs bs (o + i) k := by
  unfold pcs
  rw [List.take_add, List.drop_drop]
theorem protT_eq (n : Nat) : protT n = [0, 0, 0, 0, 238, 0, 0, 0, 1, 0, 0, 0] ++ (leB 4 ((n : Int) - 1) ++ (List.replicate 48 0 ++ [85, 170])) := by
  have l1 : (leB 4 1).length = 4 := leB_len 4 _
  have l2 : (leB 4 ((n : Int) - 1)).length = 4 := leB_len 4 _
  have h1 : (pAt genX 454 (leB 4 1)).length = 512 := by rw [pAt_len (by rw [l1, genX_len]; decide), genX_len]
  have e : genP ((n : Int) - 1) = pAt (pAt genX 454 (leB 4 1)) 458 (leB 4 ((n : Int) - 1)) := rfl
  unfold protT
  rw [e, show (66 : Nat) = 8 + (4 + (4 + (48 + 2))) from rfl, pcs_split, pcs_split, pcs_split, pcs_split]
  rw [pcs_lo (by rw [l2, h1]; decide) (by decide), pcs_lo (by rw [l1, genX_len]; decide) (by decide), pcs_lo (by rw [l2, h1]; decide) (by decide), pcs_in l1 (by rw [genX_len]; decide), pcs_in l2 (by rw [h1]; decide),
    pcs_hi (by rw [l2, h1]; decide) (by rw [l2]; decide), pcs_hi (by rw [l1, genX_len]; decide) (by rw [l1]; decide), pcs_hi (by rw [l2, h1]; decide) (by rw [l2]; decide), pcs_hi (by rw [l1, genX_len]; decide) (by rw [l1]; decide)]
  have a1 : pcs genX 446 8 = [0, 0, 0, 0, 238, 0, 0, 0] := by decide +kernel
  have a2 : pcs genX (446 + 8 + 4 + 4) 48 = List.replicate 48 0 := by decide +kernel
  have a3 : pcs genX (446 + 8 + 4 + 4 + 48) 2 = [85, 170] := by decide +kernel
  have a4 : leB 4 1 = [1, 0, 0, 0] := by decide
  rw [a1, a2, a3, a4]
  rfl
section wr
variable {ds : List UInt8} {n : Nat} {g : List UInt8} {ps : List GP}
theorem wr_lens (hn : 80 ≤ n) (hd : n * 512 ≤ ds.length) (hf : ∀ p ∈ ps, p.fits) : (wr1 ds n).length = ds.length ∧ (wr2 ds n ps).length = ds.length ∧ (wr3 ds n g ps).length = ds.length ∧ (wr4 ds n g ps).length = ds.length ∧ (wrB ds n g ps).length = ds.length := by
  have hal := arrB_len hf
  have hgl := gB_len g
  have hh1 : (encHdr n g ps).length = 512 := hdrB_len hgl
  have hh2 : (encHdr2 n g ps).length = 512 := hdrB_len hgl
  have hpt := protT_len n
  have e1 : (wr1 ds n).length = ds.length := pAt_len (by omega)
  have e2 : (wr2 ds n ps).length = ds.length := by rw [← e1]; exact pAt_len (by omega)
  have e3 : (wr3 ds n g ps).length = ds.length := by rw [← e2]; exact pAt_len (by omega)
  have e4 : (wr4 ds n g ps).length = ds.length := by rw [← e3]; exact pAt_len (by omega)
  have e5 : (wrB ds n g ps).length = ds.length := by rw [← e4]; exact pAt_len (by omega)
  exact ⟨e1, e2, e3, e4, e5⟩
theorem wr_at (hn : 80 ≤ n) (hd : n * 512 ≤ ds.length) (hf : ∀ p ∈ ps, p.fits) :
    pcs (wrB ds n g ps) 512 512 = encHdr n g ps ∧ pcs (wrB ds n g ps) 1024 16384 = arrB ps ∧ pcs (wrB ds n g ps) ((n - 33) * 512) 16384 = arrB ps ∧ pcs (wrB ds n g ps) ((n - 1) * 512) 512 = encHdr2 n g ps ∧ pcs (wrB ds n g ps) 446 66 = protT n := by
  have hal := arrB_len hf
  have hgl := gB_len g
  have hh1 : (encHdr n g ps).length = 512 := hdrB_len hgl
  have hh2 : (encHdr2 n g ps).length = 512 := hdrB_len hgl
  have hpt := protT_len n
  obtain ⟨e1, e2, e3, e4, e5⟩ := wr_lens (g := g) hn hd hf
  refine ⟨pcs_in hh1 (by omega), ?_, ?_, ?_, ?_⟩
  · unfold wrB; rw [pcs_hi (by omega) (by omega)]; exact pcs_in hal (by omega)
  · unfold wrB; rw [pcs_hi (by omega) (by omega)]; unfold wr4; rw [pcs_hi (by omega) (by omega)]; unfold wr3; rw [pcs_lo (by omega) (by omega)]; exact pcs_in hal (by omega)
  · unfold wrB; rw [pcs_hi (by omega) (by omega)]; unfold wr4; rw [pcs_hi (by omega) (by omega)]; exact pcs_in hh2 (by omega)
  · unfold wrB; rw [pcs_lo (by omega) (by omega)]; unfold wr4; rw [pcs_lo (by omega) (by omega)]; unfold wr3; rw [pcs_lo (by omega) (by omega)]; unfold wr2; rw [pcs_lo (by omega) (by omega)]; exact pcs_in hpt (by omega)
theorem stands_wr (hn : 80 ≤ n ∧ n ≤ 1000000) (hd : ds.length = n * 512) (hf : ∀ p ∈ ps, p.fits) : Stands (wrB ds n g ps) n g ps := by
  obtain ⟨e1, e2, e3, e4, e5⟩ := wr_at (g := g) hn.1 (by omega : n * 512 ≤ ds.length) hf
  have hl := (wr_lens (g := g) hn.1 (by omega : n * 512 ≤ ds.length) hf).2.2.2.2
  exact stands_of hn (by omega) e1 e2 e3 e4 (prot_of2 (by omega) (by rw [pcs0 (by decide), e5, protT_eq]))
theorem pAt_app {xs Z es : List UInt8} {o : Nat} (h : o + es.length ≤ xs.length) : pAt (xs ++ Z) o es = pAt xs o es ++ Z := by
  unfold pAt
  rw [List.take_append_of_le_length (by omega), List.drop_append_of_le_length (by omega)]
  simp only [List.append_assoc]
theorem wrB_app {Z : List UInt8} (hn : 80 ≤ n) (hd : n * 512 ≤ ds.length) (hf : ∀ p ∈ ps, p.fits) : wrB (ds ++ Z) n g ps = wrB ds n g ps ++ Z := by
  have hal := arrB_len hf
  have hgl := gB_len g
  have hh1 : (encHdr n g ps).length = 512 := hdrB_len hgl
  have hh2 : (encHdr2 n g ps).length = 512 := hdrB_len hgl
  have hpt := protT_len n
  obtain ⟨e1, e2, e3, e4, e5⟩ := wr_lens (g := g) hn hd hf
  unfold wrB wr4 wr3 wr2 wr1
  unfold wr1 at e1; unfold wr2 wr1 at e2; unfold wr3 wr2 wr1 at e3; unfold wr4 wr3 wr2 wr1 at e4
  rw [pAt_app (by omega), pAt_app (by omega), pAt_app (by omega), pAt_app (by omega), pAt_app (by omega)]
end wr
theorem OR.call2 {e : TypeId} {sz : Nat} {w0 w1 w2 : World} {S0 S : List Nat} {A M M' : List Ent} {D' : Option Addr} {n' cap' : Nat} {xs' : List Value} (H : SH w0 S0 w1 (A ++ M)) (K : OR e sz w1 S w2 M' D' n' cap' xs') (hS : ∀ s ∈ S, ∃ x ∈ M, x.b = s ∧ x.m = true) (hm : ∀ y ∈ M', y.m = true) : OR e sz w0 S0 w2 (A ++ M') D' n' cap' xs' := by
  refine ⟨K.len, H.call K.sh hS hm, ?_⟩
  rcases K.own with h | ⟨b, cur, h1, h2, h3, h4, h5, h6⟩
  · exact .inl h
  · refine .inr ⟨b, cur, h1, h2, h3, h4, h5, ?_⟩
    have h8 := H.call h6 hS (fun y hy => by
      rcases List.mem_cons.1 hy with rfl | hy
      · rfl
      · exact hm y hy)
    exact h8.perm List.perm_middle
/-- What a table's row of pointers says. -/
theorem OR.tab {e T : TypeId} {w0 w : World} {S : List Nat} {A : List Ent} {t : Nat} {o : Obj} {l : PL} {D : Option Addr} {m cap : Nat} (O : OR e 1 w0 S w (A ++ (⟨t, o, true⟩ :: ents T l)) D m cap (ptrs l)) :
    (∀ (j : Nat) (x : Nat × List Value), l[j]? = some x → ∃ ad, D = some ad ∧ w.cell? (ad.add j) = some (.pointer (some ⟨x.1, 0, none⟩))) ∧ (∀ ad, D = some ad → ad.block ≠ t ∧ ad.block ∉ l.map Prod.fst ∧ ad.block < w.heap.size) := by
  refine ⟨fun j x hx => O.cells _ _ (ptrs_get hx), fun ad h => ?_⟩
  rcases O.own with ⟨h1, _⟩ | ⟨b, cur, h1, _, _, _, _, h6⟩
  · rw [h1] at h; cases h
  · rw [h1] at h; cases h
    have hp := (List.pairwise_cons.1 h6.ap).1
    refine ⟨hp ⟨t, o, true⟩ (List.mem_append.2 (.inr (.head _))) (by simp), fun hm => ?_, lt_of_at (h6.get _ (.head _))⟩
    obtain ⟨x, hx, e1, _⟩ := b_ents (T := T) hm
    exact hp x (List.mem_append.2 (.inr (.tail _ hx))) (by simp) e1.symm
end Go.Proofs.YthcaejaaalkglaaGreatDoor.X
/- Walks of functions, printed by a program of this claim. -/
namespace Go.Proofs.YthcaejaaalkglaaGreatDoor.X
set_option linter.unusedVariables false
set_option linter.unusedSimpArgs false
open Go Go.RowKit

namespace PF
theorem bo84 : buildOK Tryz.prog 84 = true := by kernel_rfl
theorem ca33 : callable Tryz.prog 33 = true := by kernel_rfl
theorem ca37 : callable Tryz.prog 37 = true := by kernel_rfl
theorem cc84 : Tryz.prog.concrete 84 = true := by kernel_rfl
theorem pl84_0 : placeOf Tryz.prog 84 0 = some (0, 1) := by kernel_rfl
theorem ze84 : zeroL Tryz.prog 84 = some [.pointer none] := by kernel_rfl
end PF
open PF

set_option maxRecDepth 100000 in
set_option maxHeartbeats 8000000 in
theorem c_gptWrite (w : World) (B : Option Addr) (cB : Nat) (ds : List UInt8) (D : Option Addr) (m c : Nat) (g : List UInt8) (rc : Bool) (ps : List GP) (n : Nat) (hn : 80 ≤ n ∧ n ≤ 100000) (hdl : ds.length = n * 512) (hR : RB w B (n * 512) ds) (hq : RG w D m c ps) (hft : ∀ p ∈ ps, p.fit) (hgl : goodL n ps) (hm : m ≤ 128) (hgu : gOk g = true) : Calls Tryz.prog 16 #[.slice B (n * 512) cB, .agg (gtCells D m c 512 g true rc).toArray] w (Ret fun v w' => ∃ bd cm DS cs, v = .tuple #[.slice (some ⟨bd, 0, none⟩) (n * 512) cm, .slice DS 10 cs, .bool true] ∧ n * 512 ≤ cm ∧ OR 46 3 w [] w' [⟨bd, .cells (Bs (wrB ds n g ps ++ List.replicate (cm - n * 512) 0)).toArray 5 (cm, cm + 1), true⟩] DS 10 cs ((stsW n g ps).flatMap St.cells)) := by
 refine enter (fun ρ => .tuple #[ρ 4, ρ 5, ρ 6]) Tryz.func16 rfl rfl rfl (res3 rfl) ?_
 have H := SH.nil w
 have hun : ∀ p ∈ ps, (utf16 p.nm).length ≤ 36 := fun p hp => (hgl.1 p hp).un
 have hfs : ∀ p ∈ ps, p.fits := fun p hp => (hgl.1 p hp).fits
 have hok := hq.ok
 have hn9 : 80 ≤ n ∧ n ≤ 1000000 := ⟨hn.1, by omega⟩
 have hRl := hR.1
 refine sq ?_
 refine rg ?_
 refine bx (v := .agg _) H rfl rfl rfl ?_
 clear H; intro b1 w1 hb1 H _
 refine asg (v := .slice _ _ _) rfl rfl ?_
 refine asg (v := .slice _ _ _) rfl rfl ?_
 refine asg (v := .bool _) rfl rfl ?_
 refine nl ?_
 refine then_n ?_
 refine sq ?_
 refine rg ?_
 refine la H rfl ag24_5 rfl rfl rfl ?_
 refine cl ca37 (c_gptTable _ D m c g true rc ps (hq.keep H.fr) (by omega) hft hun) rfl ?_
 rintro _ w2 ⟨t, D2, cap2, l, rfl, hl1, hl2, hl3, hl4, O⟩
 replace O := O.joinN H (fun x hx => ents_m1 x hx)
 obtain ⟨hrowA, hD2⟩ := OR.tab (A := [_]) O
 replace H := O.sh; clear O
 refine mv (v := .tuple _) rfl rfl ?_
 refine xt rfl rfl rfl ?_
 refine xt rfl rfl rfl ?_
 refine asg (v := .pointer _) rfl rfl ?_
 refine asg (v := .bool _) rfl rfl ?_
 refine nl ?_
 refine then_n ?_
 refine sq ?_
 refine rg ?_
 refine mv (v := .slice _ _ _) rfl rfl ?_
 refine cvBS rfl (by exact hR.keep H.fr) Tryz.underlying30 Tryz.underlying5 Tryz.underlying9 rfl ?_
 refine cl ca30 (c_memoryOf _ ds (by omega)) rfl ?_
 rintro _ w3 ⟨bm, bd, cm, rfl, hcm, K⟩
 have hbm9 := K.ge (b := bm)
 have hbd9 := K.ge (b := bd)
 have FA := K.fr
 replace H := H.join K (by simp); simp only [List.cons_append, List.nil_append] at H; clear K
 rw [hdl] at H
 refine asg (v := .pointer _) rfl rfl ?_
 refine nl ?_
 refine then_n ?_
 refine sq ?_
 refine rg ?_
 refine mv (v := .pointer _) rfl rfl ?_
 refine nc rfl rfl ?_
 refine fa rfl fo76_2 rfl ?_
 refine st (v := .bool _) H rfl rfl sc4 rfl (by show 0 + 2 < 4; decide) (by omega) ?_
 intro w91 H9 F91; clear H; have H := H9
 refine nl ?_
 refine then_n ?_
 refine sq ?_
 refine sq ?_
 refine rg ?_
 refine mv (v := .bool _) rfl rfl ?_
 refine unot rfl rfl ?_
 refine mv (v := .bool _) rfl rfl ?_
 refine spL (t := 23) (b := false) rfl ?_
 refine gy rfl ?_
 refine mv (v := .slice _ _ _) rfl rfl ?_
 refine gy rfl ?_
 refine lnS rfl Tryz.underlying30 rfl ?_
 refine gy rfl ?_
 refine fa rfl fo24_1 rfl ?_
 refine gy rfl ?_
 refine ld H rfl sc3 rfl rfl ?_
 refine gy rfl ?_
 refine mul rfl rfl (by first | exact w_i64 (by omega) | exact w_i64 (rng_i64 _) | rfl) rfl ?_
 refine gy rfl ?_
 refine lss rfl rfl rfl ?_
 refine pkF (v := .bool _) rfl rfl rfl ?_
 refine nl ?_
 refine then_n ?_
 refine cF rfl (by omega) ?_
 refine sk ?_
 refine then_n ?_
 refine sq ?_
 refine rg ?_
 have hrowB := row_same rfl hrowA [] FA (fun _ _ => by simp)
 have hrowC := row_same rfl hrowB [bm] F91 (fun ad e => by have := hD2 ad e; simp only [List.mem_singleton]; omega)
 have HP := H.perm (List.Perm.append_right (ents 126 l) (List.perm_append_comm (l₁ := [_, _]) (l₂ := [_, _])))
 have hDC : ∀ ad, D2 = some ad → ad.block ∉ List.map Ent.b (⟨t, .cells (tbZ D2 m cap2 g true rc).toArray 106 (0, 0), true⟩ :: ⟨bm, .cells ([.slice (some ⟨bd, 0, none⟩) (n * 512) cm, .int .i64 0, .bool true, .slice none 0 0] : List Value).toArray 76 (0, 0), true⟩ :: ⟨bd, .cells (Bs (ds ++ List.replicate (cm - n * 512) 0)).toArray 5 (cm, cm + 1), true⟩ :: ents 126 l) := fun ad e => by
  obtain ⟨d1, d2, d3⟩ := hD2 ad e
  simp only [List.map_cons, List.mem_cons, not_or]
  refine ⟨d1, by omega, by omega, fun h => d2 ?_⟩
  obtain ⟨x, hx, e1⟩ := List.mem_map.1 h
  rw [← e1]; exact ents_b hx
 have hDlC : ∀ ad, D2 = some ad → ad.block ∉ l.map Prod.fst := fun ad e => (hD2 ad e).2.1
 refine mv (v := .pointer _) rfl rfl ?_
 refine mv (v := .pointer _) rfl rfl ?_
 refine bu (out := ?o1) ze84 bo84 ?f1 rfl ?_
 case f1 =>
  refine FL.one (v := .pointer _) rfl pl84_0 rfl (by first | decide | simp) ?_
  exact FL.nil
 refine mi (v := .agg _) rfl cc84 rfl ?_
 refine mv (v := .slice _ _ _) rfl rfl ?_
 refine lnS rfl Tryz.underlying30 rfl ?_
 refine cl ca33 (c_write _ (List.map Ent.b (_ :: _ :: _ :: ents 126 l)) t bm bd cm (cm + 1) (.int .i64 0) 5 (ds ++ List.replicate (cm - n * 512) 0) D2 m cap2 g rc n hn9 l ps (.int .i64 0) (.int .i64 0) hl1 hl2 hrowC hDC hDlC hgl hok hft (by omega) hgu (by rw [List.length_append]; omega) (by omega) (SH.base (A := [_]) HP)) rfl ?_
 rintro _ w4 ⟨DS, cs, rfl, K⟩
 have O := OR.call2 (A := [_]) HP K (fun s hs => by obtain ⟨x, hx, rfl⟩ := List.mem_map.1 hs; exact ⟨x, hx, rfl, by rcases List.mem_cons.1 hx with rfl | hx; rfl; rcases List.mem_cons.1 hx with rfl | hx; rfl; rcases List.mem_cons.1 hx with rfl | hx; rfl; exact ents_m x hx⟩) (by simp)
 simp only [List.cons_append, List.nil_append] at O
 rw [wrB_app hn.1 (by omega) hfs] at O
 replace H := O.sh; clear K HP
 refine asg (v := .nilIface) rfl rfl ?_
 refine nl ?_
 refine then_n ?_
 refine sq ?_
 refine dr (by kernel_rfl) ?_
 have H := H.drew
 replace O := O.drew
 refine hold (fun _ => True) [] ?_
 refine tk (i := 0) rfl (by kernel_rfl) rfl trivial (fun _ _ => r_mv (v := .pointer _) rfl) ?_
 refine tk (i := 1) rfl (by kernel_rfl) rfl trivial (fun _ _ => r_nc rfl) ?_
 refine tk (i := 2) rfl (by kernel_rfl) rfl trivial (fun _ _ => r_fa rfl fo76_0) ?_
 refine tk (i := 4) rfl (by kernel_rfl) rfl trivial (fun _ _ => r_mv (v := .pointer _) rfl) ?_
 refine tk (i := 5) rfl (by kernel_rfl) rfl trivial (fun _ _ => r_nc rfl) ?_
 refine tk (i := 6) rfl (by kernel_rfl) rfl trivial (fun _ _ => r_fa rfl fo76_3) ?_
 refine tk (i := 8) rfl (by kernel_rfl) rfl trivial (fun _ _ => r_mv (v := .nilIface) rfl) ?_
 refine tk (i := 9) rfl (by kernel_rfl) rfl trivial (fun _ _ => r_eqlI0 rfl Tryz.underlying73) ?_
 refine unfree ?_
 refine holdH H [] ?_
 refine tk (i := 3) rfl (by kernel_rfl) rfl H (fun w' H => r_ld H rfl sc30 rfl) ?_
 refine tk (i := 7) rfl (by kernel_rfl) rfl H (fun w' H => r_ld H rfl sc39 rfl) ?_
 refine tk (i := 10) rfl (by kernel_rfl) rfl H (fun w' H => r_asg (v := .slice _ _ _) rfl) ?_
 refine tk (i := 11) rfl (by kernel_rfl) rfl H (fun w' H => r_asg (v := .slice _ _ _) rfl) ?_
 refine tk (i := 12) rfl (by kernel_rfl) rfl H (fun w' H => r_asg (v := .bool _) rfl) ?_
 refine da (by kernel_rfl) ?_
 refine then_n ?_
 refine rt ?_
 refine fin_r ?_
 refine ⟨bd, cm, DS, cs, rfl, by omega, ?_⟩
 exact O.sub (by repeat (first | exact List.Sublist.refl _ | exact List.nil_sublist _ | apply List.Sublist.cons_cons | apply List.Sublist.cons))

end Go.Proofs.YthcaejaaalkglaaGreatDoor.X
/- Walks of functions, printed by a program of this claim. -/
namespace Go.Proofs.YthcaejaaalkglaaGreatDoor.X
set_option linter.unusedVariables false
set_option linter.unusedSimpArgs false
open Go Go.RowKit

namespace PF
theorem ca10 : callable Tryz.prog 10 = true := by kernel_rfl
theorem ca11 : callable Tryz.prog 11 = true := by kernel_rfl
theorem ca16 : callable Tryz.prog 16 = true := by kernel_rfl
theorem ca8 : callable Tryz.prog 8 = true := by kernel_rfl
theorem ca9 : callable Tryz.prog 9 = true := by kernel_rfl
end PF
open PF

set_option maxRecDepth 100000 in
set_option maxHeartbeats 4000000 in
theorem c_FnGptBack (w : World) (D : Option Addr) (m c : Nat) (sec : Int) (g : List UInt8) (pr rc : Bool) (ps : List GP) (hq : RG w D m c ps) (hU : Utf8W w) (x y : Int) (hx : 0 ≤ x ∧ x ≤ 65535) (hy : 0 ≤ y ∧ y ≤ 255) : Calls Tryz.prog 4 #[.agg (gtCells D m c sec g pr rc).toArray, .int .u16 x, .int .u8 y] w (Ret fun v w' => v = .bool true ∧ Fr [] w w') := by
 refine enter (fun ρ => ρ 6) Tryz.func4 rfl rfl rfl (res1 rfl) ?_
 have H := SH.nil w
 have hql := hq.len
 obtain ⟨n, hnn⟩ : ∃ n : Nat, (n : Int) = 80 + x % 200 := ⟨(80 + x % 200).toNat, by omega⟩
 have hn : 80 ≤ n ∧ n ≤ 1000000 := by omega
 have hnb : n ≤ 1000 := by omega
 refine sq ?_
 refine rg ?_
 refine bx (v := .agg _) H rfl rfl rfl ?_
 clear H; intro b1 w1 hb1 H _
 refine asg (v := .bool _) rfl rfl ?_
 refine nl ?_
 refine then_n ?_
 refine sq ?_
 refine sq ?_
 refine rg ?_
 refine la H rfl ag24_5 rfl rfl rfl ?_
 refine cl ca8 (c_fits5 _ D m c sec g pr rc ps (hq.keep H.fr)) rfl ?_
 rintro _ w2 ⟨g5, rfl, g5h, F⟩
 replace H := H.keep F; clear F
 refine unot rfl rfl ?_
 refine nl ?_
 refine then_n ?_
 refine cn rfl (fun hc1 => ?_) (fun hc1 => ?_)
 ·refine sq ?_
  refine rg ?_
  refine asg (v := .bool _) rfl rfl ?_
  refine nl ?_
  refine then_n ?_
  refine rt ?_
  refine then_r ?_
  refine fin_r ?_
  exact ⟨rfl, H.fr⟩
 ·have h5 := g5h (by simpa using hc1)
  refine sk ?_
  refine then_n ?_
  refine sq ?_
  refine rg ?_
  refine mv (v := .int .u16 _) rfl rfl ?_
  refine cvi rfl rfl Tryz.underlying3 (by first | exact w_i64 (by omega) | exact w_i64 (rng_i64 _) | rfl) rfl ?_
  refine rem rfl rfl (by omega) (by omega) rfl rfl ?_
  refine add (c := (n : Int)) rfl rfl (by rw [w_i64 (by omega)]; omega) rfl ?_
  refine asg (v := .int .i64 _) rfl rfl ?_
  refine nl ?_
  refine then_n ?_
  refine sq ?_
  refine rg ?_
  refine fa rfl fo24_1 rfl ?_
  refine st (v := .int .i64 _) H rfl rfl sc3 rfl (by show 0 + 1 < 5; decide) (by omega) ?_
  clear H; intro w91 H _
  refine fa rfl fo24_3 rfl ?_
  refine st (v := .bool _) H rfl rfl sc4 rfl (by show 0 + 3 < 5; decide) (by omega) ?_
  clear H; intro w92 H _
  refine nl ?_
  refine then_n ?_
  refine sq ?_
  refine sq ?_
  refine rg ?_
  replace H := sh_cells0 (cs' := gtCells D m c 512 g true rc) H rfl
  refine la (vs := gtCells D m c 512 g true rc) H rfl ag24_5 rfl rfl rfl ?_
  refine mv (v := .int .i64 _) rfl rfl ?_
  refine cvi rfl rfl Tryz.underlying28 (by first | exact w_u64 (by omega) | exact w_u64 (rng_u64 _) | exact m_u64 _) rfl ?_
  refine cl ca9 (c_good _ D m c g true rc ps (hq.keep H.fr) (hU.keep H.fr) n hn h5.2.2) rfl ?_
  rintro _ w3 ⟨gg, rfl, F, hgg⟩
  replace H := H.keep F; clear F
  refine unot rfl rfl ?_
  refine nl ?_
  refine then_n ?_
  refine cn rfl (fun hc2 => ?_) (fun hc2 => ?_)
  ·refine sq ?_
   refine rg ?_
   refine cl ca10 (c_awake _) rfl ?_
   rintro _ w4 ⟨rfl, F⟩
   replace H := H.keep F; clear F
   refine asg (v := .bool _) rfl rfl ?_
   refine nl ?_
   refine then_n ?_
   refine rt ?_
   refine then_r ?_
   refine fin_r ?_
   exact ⟨rfl, H.fr⟩
  ·obtain ⟨hgu, hm, hgl⟩ := hgg (by simpa using hc2)
   have hfs : ∀ p ∈ ps, p.fits := fun p hp => (hgl.1 p hp).fits
   have hn6 : n ≤ 1000000 := hn.2
   have hoks := hq.ok
   have hgo := ok_laid hgl hoks hn6
   have hft := h5.2.2
   refine sk ?_
   refine then_n ?_
   refine sq ?_
   refine dr (by kernel_rfl) ?_
   have H := H.drew
   refine hold (fun w' => SH w [] w' [⟨b1, .cells (gtCells D m c 512 g true rc).toArray 24 (0, 0), true⟩]) [4] ?_
   refine tk (i := 3) rfl (by kernel_rfl) rfl (H.sub (by repeat (first | exact List.Sublist.refl _ | exact List.nil_sublist _ | apply List.Sublist.cons_cons | apply List.Sublist.cons))) (fun w' H => r_la (vs := gtCells D m c 512 g true rc) H rfl ag24_5 rfl rfl) ?_
   refine manyA (R := [0, 1]) (by kernel_rfl) ?_ (by simp)
   simp only [List.forall_mem_cons]
   refine ⟨⟨_, rfl, rfl, ?_⟩, ⟨_, rfl, rfl, ?_⟩, by simp⟩
   ·refine mv (v := .int .i64 _) rfl rfl ?_
    refine nl ?_
    refine then_n ?_
    refine ⟨H.sub (by repeat (first | exact List.Sublist.refl _ | exact List.nil_sublist _ | apply List.Sublist.cons_cons | apply List.Sublist.cons)), ?_⟩
    refine fk (i := 1) (by kernel_rfl) rfl rfl rfl ?_
    refine mv (v := .int .u8 _) rfl rfl ?_
    refine nl ?_
    refine then_n ?_
    refine ⟨H.sub (by repeat (first | exact List.Sublist.refl _ | exact List.nil_sublist _ | apply List.Sublist.cons_cons | apply List.Sublist.cons)), ?_⟩
    refine fk (i := 2) (by kernel_rfl) rfl rfl rfl ?_
    refine cl ca11 (c_partDisk _ n 512 y (by omega) (by omega) (by omega)) rfl ?_
    rintro _ w5 ⟨bd, ds, rfl, hdl, hb1, ho1, F⟩
    replace H := H.new F hb1 ho1; clear F ho1
    refine nl ?_
    refine then_n ?_
    refine ⟨H.sub (by repeat (first | exact List.Sublist.refl _ | exact List.nil_sublist _ | apply List.Sublist.cons_cons | apply List.Sublist.cons)), ?_⟩
    have S := stands_wr (g := g) hn hdl hfs
    have hwl := S.len
    obtain ⟨L1, L4, L5, L6, L7, L8⟩ := S.read hn
    refine fb (i := 4) (by kernel_rfl) rfl rfl rfl ?_
    refine cl ca16 (c_gptWrite _ (some ⟨bd, 0, none⟩) (n * 512) ds D m c g rc ps n ⟨hn.1, by omega⟩ hdl (RB.allm (b := bd) H hdl) (hq.keep H.fr) hft hgl hm hgu) rfl ?_
    rintro _ w6 ⟨bx, cm, DS, cs, rfl, hcm, OW⟩
    replace OW := OW.joinN H (by simp)
    simp only [List.cons_append, List.nil_append] at OW
    replace H := OW.sh
    refine nl ?_
    refine then_n ?_
    refine holdH H [] ?_
    refine tk (i := 5) rfl (by kernel_rfl) rfl (H.sub (by repeat (first | exact List.Sublist.refl _ | exact List.nil_sublist _ | apply List.Sublist.cons_cons | apply List.Sublist.cons))) (fun w' H => r_mv (v := .tuple _) rfl) ?_
    refine tk (i := 6) rfl (by kernel_rfl) rfl (H.sub (by repeat (first | exact List.Sublist.refl _ | exact List.nil_sublist _ | apply List.Sublist.cons_cons | apply List.Sublist.cons))) (fun w' H => r_xt rfl rfl) ?_
    refine tk (i := 7) rfl (by kernel_rfl) rfl (H.sub (by repeat (first | exact List.Sublist.refl _ | exact List.nil_sublist _ | apply List.Sublist.cons_cons | apply List.Sublist.cons))) (fun w' H => r_xt rfl rfl) ?_
    refine tk (i := 8) rfl (by kernel_rfl) rfl (H.sub (by repeat (first | exact List.Sublist.refl _ | exact List.nil_sublist _ | apply List.Sublist.cons_cons | apply List.Sublist.cons))) (fun w' H => r_xt rfl rfl) ?_
    refine tk (i := 9) rfl (by kernel_rfl) rfl (H.sub (by repeat (first | exact List.Sublist.refl _ | exact List.nil_sublist _ | apply List.Sublist.cons_cons | apply List.Sublist.cons))) (fun w' H => r_asg (v := .slice _ _ _) rfl) ?_
    refine tk (i := 10) rfl (by kernel_rfl) rfl (H.sub (by repeat (first | exact List.Sublist.refl _ | exact List.nil_sublist _ | apply List.Sublist.cons_cons | apply List.Sublist.cons))) (fun w' H => r_asg (v := .slice _ _ _) rfl) ?_
    refine tk (i := 11) rfl (by kernel_rfl) rfl (H.sub (by repeat (first | exact List.Sublist.refl _ | exact List.nil_sublist _ | apply List.Sublist.cons_cons | apply List.Sublist.cons))) (fun w' H => r_asg (v := .bool _) rfl) ?_
    refine da (by kernel_rfl) ?_
    refine then_n ?_
    refine sq ?_
    refine rg ?_
    refine mv (v := .slice _ _ _) rfl rfl ?_
    refine cl ca17 (c_implGptRead _ (some ⟨bx, 0, none⟩) (n * 512) cm (wrB ds n g ps) (hwl ▸ RB.pre (b := bx) H) (by omega) (n - 1) (n - 33) (by omega) (by omega) L4 L5 L6 L7) rfl ?_
    rintro _ w7 ⟨FR, v1, rfl, r1, r2⟩
    rw [L1, Bool.true_or]
    obtain ⟨DR, cR, rfl, O9⟩ := r1 L1
    rw [S.a1, used_laid hgl] at O9 ⊢
    rw [S.u1, L8]
    replace O9 := O9.joinN H (by simp)
    simp only [List.append_nil] at O9
    replace H := O9.sh; clear FR
    refine mv (v := .tuple _) rfl rfl ?_
    refine xt rfl rfl rfl ?_
    refine xt rfl rfl rfl ?_
    refine al H ze24 rfl ?_
    intro b2 w8 hb2 H1 F; replace O9 := O9.new F hb2 H1.look; clear H H1 F; have H := O9.sh
    refine sa (cs' := gtCells DR (ps.map gpP).length cR 512 (gT (gB g)) true false) H rfl rfl ag24_5 rfl rfl (by show 0 + 5 ≤ 5; decide) (by omega) rfl ?_
    intro w93 H1 F; replace O9 := O9.put F H1.look; clear H H1 F; have H := O9.sh
    refine asg (v := .bool _) rfl rfl ?_
    refine nl ?_
    refine then_n ?_
    refine sq ?_
    refine dr (by kernel_rfl) ?_
    have H := H.drew
    replace O9 := O9.drew
    refine holdH H [] ?_
    refine tk (i := 0) rfl (by kernel_rfl) rfl H (fun w' H => r_mv (v := .bool _) rfl) ?_
    refine tk (i := 1) rfl (by kernel_rfl) rfl H (fun w' H => r_mv (v := .bool _) rfl) ?_
    refine spaL (t := 43) (b := true) rfl ?_
    refine tkg (i := 2) rfl (by kernel_rfl) rfl H rfl (fun w' H => r_mv (v := .bool _) rfl) ?_
    refine tk (i := 3) rfl (by kernel_rfl) rfl H (fun w' H => r_pkT (v := .bool _) rfl rfl) ?_
    refine tk (i := 4) rfl (by kernel_rfl) rfl H (fun w' H => r_mv (v := .bool _) rfl) ?_
    refine spaL (t := 46) (b := true) rfl ?_
    refine tkg (i := 5) rfl (by kernel_rfl) rfl H rfl (fun w' H => r_la (vs := gtCells DR (ps.map gpP).length cR 512 (gT (gB g)) true false) H rfl ag24_5 rfl rfl) ?_
    refine tkg (i := 7) rfl (by kernel_rfl) rfl H rfl (fun w' H => r_la (vs := gtCells D m c 512 g true rc) H rfl ag24_5 rfl rfl) ?_
    refine fk (i := 6) (by kernel_rfl) rfl rfl rfl ?_
    refine gy rfl ?_
    refine cl ca18 (c_used _ DR _ cR _ _ false (ps.map gpP) (RG.of_own O9 hgo) (by simp; omega)) rfl ?_
    rintro _ w9 ⟨DU2, cU2, rfl, OU⟩
    rw [keep_laid hgl hoks] at OU ⊢
    have hRU := RG.of_own (ps := ps.map gpP) OU hgo
    replace H := H.keep OU.sh.fr; replace O9 := O9.keep OU.sh.fr
    refine nl ?_
    refine then_n ?_
    refine ⟨H, ?_⟩
    refine fk (i := 8) (by kernel_rfl) rfl rfl rfl ?_
    refine gy rfl ?_
    refine cl ca15 (c_sameGpt _ DU2 D _ cU2 m c (gT (gB g)) g _ _ _ _ (ps.map gpP) ps hRU (hq.keep H.fr) (by simp; omega)) rfl ?_
    rintro _ w10 ⟨rfl, F⟩
    replace H := H.keep F; replace O9 := O9.keep F; clear F
    rw [same_laid hgu hgl hoks hn6]
    refine nl ?_
    refine then_n ?_
    refine ⟨H, ?_⟩
    refine tk (i := 9) rfl (by kernel_rfl) rfl H (fun w' H => r_pkT (v := .bool _) rfl rfl) ?_
    refine tk (i := 10) rfl (by kernel_rfl) rfl H (fun w' H => r_mv (v := .bool _) rfl) ?_
    refine spaL (t := 52) (b := true) rfl ?_
    refine fk (i := 11) (by kernel_rfl) rfl rfl rfl ?_
    refine gy rfl ?_
    refine cl ca10 (c_awake _) rfl ?_
    rintro _ w11 ⟨rfl, F⟩
    replace H := H.keep F; replace O9 := O9.keep F; clear F
    refine nl ?_
    refine then_n ?_
    refine ⟨H, ?_⟩
    refine tk (i := 12) rfl (by kernel_rfl) rfl H (fun w' H => r_pkT (v := .bool _) rfl rfl) ?_
    refine tk (i := 13) rfl (by kernel_rfl) rfl H (fun w' H => r_asg (v := .bool _) rfl) ?_
    refine da (by kernel_rfl) ?_
    refine then_n ?_
    refine rt ?_
    refine fin_r ?_
    exact ⟨rfl, H.fr⟩
   ·refine mv (v := .int .u8 _) rfl rfl ?_
    refine nl ?_
    refine then_n ?_
    refine ⟨H.sub (by repeat (first | exact List.Sublist.refl _ | exact List.nil_sublist _ | apply List.Sublist.cons_cons | apply List.Sublist.cons)), ?_⟩
    refine fk (i := 0) (by kernel_rfl) rfl rfl rfl ?_
    refine mv (v := .int .i64 _) rfl rfl ?_
    refine nl ?_
    refine then_n ?_
    refine ⟨H.sub (by repeat (first | exact List.Sublist.refl _ | exact List.nil_sublist _ | apply List.Sublist.cons_cons | apply List.Sublist.cons)), ?_⟩
    refine fk (i := 2) (by kernel_rfl) rfl rfl rfl ?_
    refine cl ca11 (c_partDisk _ n 512 y (by omega) (by omega) (by omega)) rfl ?_
    rintro _ w12 ⟨bd, ds, rfl, hdl, hb1, ho1, F⟩
    replace H := H.new F hb1 ho1; clear F ho1
    refine nl ?_
    refine then_n ?_
    refine ⟨H.sub (by repeat (first | exact List.Sublist.refl _ | exact List.nil_sublist _ | apply List.Sublist.cons_cons | apply List.Sublist.cons)), ?_⟩
    have S := stands_wr (g := g) hn hdl hfs
    have hwl := S.len
    obtain ⟨L1, L4, L5, L6, L7, L8⟩ := S.read hn
    refine fb (i := 4) (by kernel_rfl) rfl rfl rfl ?_
    refine cl ca16 (c_gptWrite _ (some ⟨bd, 0, none⟩) (n * 512) ds D m c g rc ps n ⟨hn.1, by omega⟩ hdl (RB.allm (b := bd) H hdl) (hq.keep H.fr) hft hgl hm hgu) rfl ?_
    rintro _ w13 ⟨bx, cm, DS, cs, rfl, hcm, OW⟩
    replace OW := OW.joinN H (by simp)
    simp only [List.cons_append, List.nil_append] at OW
    replace H := OW.sh
    refine nl ?_
    refine then_n ?_
    refine holdH H [] ?_
    refine tk (i := 5) rfl (by kernel_rfl) rfl (H.sub (by repeat (first | exact List.Sublist.refl _ | exact List.nil_sublist _ | apply List.Sublist.cons_cons | apply List.Sublist.cons))) (fun w' H => r_mv (v := .tuple _) rfl) ?_
    refine tk (i := 6) rfl (by kernel_rfl) rfl (H.sub (by repeat (first | exact List.Sublist.refl _ | exact List.nil_sublist _ | apply List.Sublist.cons_cons | apply List.Sublist.cons))) (fun w' H => r_xt rfl rfl) ?_
    refine tk (i := 7) rfl (by kernel_rfl) rfl (H.sub (by repeat (first | exact List.Sublist.refl _ | exact List.nil_sublist _ | apply List.Sublist.cons_cons | apply List.Sublist.cons))) (fun w' H => r_xt rfl rfl) ?_
    refine tk (i := 8) rfl (by kernel_rfl) rfl (H.sub (by repeat (first | exact List.Sublist.refl _ | exact List.nil_sublist _ | apply List.Sublist.cons_cons | apply List.Sublist.cons))) (fun w' H => r_xt rfl rfl) ?_
    refine tk (i := 9) rfl (by kernel_rfl) rfl (H.sub (by repeat (first | exact List.Sublist.refl _ | exact List.nil_sublist _ | apply List.Sublist.cons_cons | apply List.Sublist.cons))) (fun w' H => r_asg (v := .slice _ _ _) rfl) ?_
    refine tk (i := 10) rfl (by kernel_rfl) rfl (H.sub (by repeat (first | exact List.Sublist.refl _ | exact List.nil_sublist _ | apply List.Sublist.cons_cons | apply List.Sublist.cons))) (fun w' H => r_asg (v := .slice _ _ _) rfl) ?_
    refine tk (i := 11) rfl (by kernel_rfl) rfl (H.sub (by repeat (first | exact List.Sublist.refl _ | exact List.nil_sublist _ | apply List.Sublist.cons_cons | apply List.Sublist.cons))) (fun w' H => r_asg (v := .bool _) rfl) ?_
    refine da (by kernel_rfl) ?_
    refine then_n ?_
    refine sq ?_
    refine rg ?_
    refine mv (v := .slice _ _ _) rfl rfl ?_
    refine cl ca17 (c_implGptRead _ (some ⟨bx, 0, none⟩) (n * 512) cm (wrB ds n g ps) (hwl ▸ RB.pre (b := bx) H) (by omega) (n - 1) (n - 33) (by omega) (by omega) L4 L5 L6 L7) rfl ?_
    rintro _ w14 ⟨FR, v1, rfl, r1, r2⟩
    rw [L1, Bool.true_or]
    obtain ⟨DR, cR, rfl, O9⟩ := r1 L1
    rw [S.a1, used_laid hgl] at O9 ⊢
    rw [S.u1, L8]
    replace O9 := O9.joinN H (by simp)
    simp only [List.append_nil] at O9
    replace H := O9.sh; clear FR
    refine mv (v := .tuple _) rfl rfl ?_
    refine xt rfl rfl rfl ?_
    refine xt rfl rfl rfl ?_
    refine al H ze24 rfl ?_
    intro b3 w15 hb3 H1 F; replace O9 := O9.new F hb3 H1.look; clear H H1 F; have H := O9.sh
    refine sa (cs' := gtCells DR (ps.map gpP).length cR 512 (gT (gB g)) true false) H rfl rfl ag24_5 rfl rfl (by show 0 + 5 ≤ 5; decide) (by omega) rfl ?_
    intro w93 H1 F; replace O9 := O9.put F H1.look; clear H H1 F; have H := O9.sh
    refine asg (v := .bool _) rfl rfl ?_
    refine nl ?_
    refine then_n ?_
    refine sq ?_
    refine dr (by kernel_rfl) ?_
    have H := H.drew
    replace O9 := O9.drew
    refine holdH H [] ?_
    refine tk (i := 0) rfl (by kernel_rfl) rfl H (fun w' H => r_mv (v := .bool _) rfl) ?_
    refine tk (i := 1) rfl (by kernel_rfl) rfl H (fun w' H => r_mv (v := .bool _) rfl) ?_
    refine spaL (t := 43) (b := true) rfl ?_
    refine tkg (i := 2) rfl (by kernel_rfl) rfl H rfl (fun w' H => r_mv (v := .bool _) rfl) ?_
    refine tk (i := 3) rfl (by kernel_rfl) rfl H (fun w' H => r_pkT (v := .bool _) rfl rfl) ?_
    refine tk (i := 4) rfl (by kernel_rfl) rfl H (fun w' H => r_mv (v := .bool _) rfl) ?_
    refine spaL (t := 46) (b := true) rfl ?_
    refine tkg (i := 5) rfl (by kernel_rfl) rfl H rfl (fun w' H => r_la (vs := gtCells DR (ps.map gpP).length cR 512 (gT (gB g)) true false) H rfl ag24_5 rfl rfl) ?_
    refine tkg (i := 7) rfl (by kernel_rfl) rfl H rfl (fun w' H => r_la (vs := gtCells D m c 512 g true rc) H rfl ag24_5 rfl rfl) ?_
    refine fk (i := 6) (by kernel_rfl) rfl rfl rfl ?_
    refine gy rfl ?_
    refine cl ca18 (c_used _ DR _ cR _ _ false (ps.map gpP) (RG.of_own O9 hgo) (by simp; omega)) rfl ?_
    rintro _ w16 ⟨DU2, cU2, rfl, OU⟩
    rw [keep_laid hgl hoks] at OU ⊢
    have hRU := RG.of_own (ps := ps.map gpP) OU hgo
    replace H := H.keep OU.sh.fr; replace O9 := O9.keep OU.sh.fr
    refine nl ?_
    refine then_n ?_
    refine ⟨H, ?_⟩
    refine fk (i := 8) (by kernel_rfl) rfl rfl rfl ?_
    refine gy rfl ?_
    refine cl ca15 (c_sameGpt _ DU2 D _ cU2 m c (gT (gB g)) g _ _ _ _ (ps.map gpP) ps hRU (hq.keep H.fr) (by simp; omega)) rfl ?_
    rintro _ w17 ⟨rfl, F⟩
    replace H := H.keep F; replace O9 := O9.keep F; clear F
    rw [same_laid hgu hgl hoks hn6]
    refine nl ?_
    refine then_n ?_
    refine ⟨H, ?_⟩
    refine tk (i := 9) rfl (by kernel_rfl) rfl H (fun w' H => r_pkT (v := .bool _) rfl rfl) ?_
    refine tk (i := 10) rfl (by kernel_rfl) rfl H (fun w' H => r_mv (v := .bool _) rfl) ?_
    refine spaL (t := 52) (b := true) rfl ?_
    refine fk (i := 11) (by kernel_rfl) rfl rfl rfl ?_
    refine gy rfl ?_
    refine cl ca10 (c_awake _) rfl ?_
    rintro _ w18 ⟨rfl, F⟩
    replace H := H.keep F; replace O9 := O9.keep F; clear F
    refine nl ?_
    refine then_n ?_
    refine ⟨H, ?_⟩
    refine tk (i := 12) rfl (by kernel_rfl) rfl H (fun w' H => r_pkT (v := .bool _) rfl rfl) ?_
    refine tk (i := 13) rfl (by kernel_rfl) rfl H (fun w' H => r_asg (v := .bool _) rfl) ?_
    refine da (by kernel_rfl) ?_
    refine then_n ?_
    refine rt ?_
    refine fin_r ?_
    exact ⟨rfl, H.fr⟩

end Go.Proofs.YthcaejaaalkglaaGreatDoor.X
