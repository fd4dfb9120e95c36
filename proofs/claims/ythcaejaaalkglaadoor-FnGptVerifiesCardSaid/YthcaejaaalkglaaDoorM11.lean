/- Laws and walks on the road to the statement: P34, P35. -/
import Derived.Test.YthcaejaaalkglaaDoorM10
/- Walks of functions, printed by a program of this claim. -/
namespace Go.Proofs.YthcaejaaalkglaaDoor.X
set_option linter.unusedVariables false
set_option linter.unusedSimpArgs false
open Go Go.RowKit

namespace P34
theorem ca29 : callable Tryd.prog 29 = true := by kernel_rfl
theorem ca30 : callable Tryd.prog 30 = true := by kernel_rfl
theorem ca36 : callable Tryd.prog 36 = true := by kernel_rfl
theorem ca50 : callable Tryd.prog 50 = true := by kernel_rfl
theorem ca55 : callable Tryd.prog 55 = true := by kernel_rfl
theorem ca56 : callable Tryd.prog 56 = true := by kernel_rfl
theorem ca99 : callable Tryd.prog 99 = true := by kernel_rfl
theorem cc65 : Tryd.prog.concrete 65 = true := by kernel_rfl
theorem fo99_1 : fieldOff Tryd.prog 99 1 = some 1 := by kernel_rfl
theorem fo99_11 : fieldOff Tryd.prog 99 11 = some 11 := by kernel_rfl
theorem fo99_12 : fieldOff Tryd.prog 99 12 = some 12 := by kernel_rfl
theorem fo99_13 : fieldOff Tryd.prog 99 13 = some 13 := by kernel_rfl
theorem fo99_14 : fieldOff Tryd.prog 99 14 = some 14 := by kernel_rfl
theorem fo99_2 : fieldOff Tryd.prog 99 2 = some 2 := by kernel_rfl
theorem fo99_4 : fieldOff Tryd.prog 99 4 = some 4 := by kernel_rfl
theorem fo99_6 : fieldOff Tryd.prog 99 6 = some 6 := by kernel_rfl
theorem fo99_7 : fieldOff Tryd.prog 99 7 = some 7 := by kernel_rfl
theorem me65_ReadAt : ∀ (v : Value) (w : World), (method (Tryd.prog.types.size + Made.depth) 65 v "ReadAt").run Tryd.prog w = .ok (99, v) w := fun v w => by kernel_rfl
theorem mi5 : elemInfo Tryd.prog 5 = some (.int .u8 0, 1) := by kernel_rfl
theorem sc28 : scalarB Tryd.prog 28 = true := by kernel_rfl
theorem sc3 : scalarB Tryd.prog 3 = true := by kernel_rfl
theorem sc4 : scalarB Tryd.prog 4 = true := by kernel_rfl
theorem sc53 : scalarB Tryd.prog 53 = true := by kernel_rfl
theorem sz5_1 : sizeB Tryd.prog 5 1 = true := by kernel_rfl

end P34
open P34

set_option maxRecDepth 100000 in
set_option maxHeartbeats 1000000 in
theorem c_tabHead (w : World) (q c : Nat) (T : TypeId) (bs : List UInt8) (hb : w.heap[q]? = some (.cells (Bs bs).toArray T (0, 0))) (hc : 512 ≤ c) (ho : bs.length = 512) : Calls Tryd.prog 50 #[.slice (some ⟨q, 0, none⟩) 512 c, .int .i64 512, .int .i64 512, .bool false] w (Ret fun v w' => Fr [q] w w' ∧ w'.heap[q]? = some (.cells (Bs (pAt bs 16 [0, 0, 0, 0])).toArray T (0, 0)) ∧ ∃ A e, v = .tuple #[.pointer A, e] ∧ Ifc e ∧ isIf e = !(hdrGood bs 0) ∧ (hdrGood bs 0 = true → ∃ p, A = some ⟨p, 0, none⟩ ∧ w.heap.size ≤ p ∧ ∃ pb, w'.heap[p]? = some (.cells (tbC none 0 0 512 512 (gT (pcs bs 56 16)) pb false (fld bs 80 4) (fld bs 84 4) (fld bs 72 8) (fld bs 88 4) (fld bs 24 8) (fld bs 32 8) (fld bs 40 8) (fld bs 48 8) true).toArray 99 (0, 0)))) := by
  refine enter (fun ρ => .tuple #[ρ 8, ρ 9]) Tryd.func50 rfl rfl rfl (res2 rfl) ?_
  have H := SH.rw1 hb
  refine sq ?_
  refine rg ?_
  refine asg (v := .pointer _) rfl rfl ?_
  refine asg (v := .nilIface) rfl rfl ?_
  refine nl ?_
  refine then_n ?_
  refine sq ?_
  refine rg ?_
  refine mv (v := .int .i64 _) rfl rfl ?_
  refine asg (v := .int .i64 _) rfl rfl ?_
  refine nl ?_
  refine then_n ?_
  refine sq ?_
  refine sq ?_
  refine rg ?_
  refine mv (v := .slice _ _ _) rfl rfl ?_
  refine lnS rfl Tryd.underlying30 rfl ?_
  refine mv (v := .int .i64 _) rfl rfl ?_
  refine lss rfl rfl rfl ?_
  refine nl ?_
  refine then_n ?_
  first | refine cF rfl (by omega) ?_ | refine cbF rfl (by omega) ?_   -- test 1
  refine sk ?_
  refine then_n ?_
  refine sq ?_
  refine rg ?_
  refine mv (v := .slice _ _ _) rfl rfl ?_
  refine asg (v := .slice _ _ _) rfl rfl ?_
  refine nl ?_
  refine then_n ?_
  refine sq ?_
  refine sq ?_
  refine rg ?_
  refine mv (v := .bool _) rfl rfl ?_
  refine nl ?_
  refine then_n ?_
  first | refine cF rfl rfl ?_ | refine cbF rfl rfl ?_   -- test 2
  refine sk ?_
  refine then_n ?_
  refine sq ?_
  refine rg ?_
  refine mv (v := .slice _ _ _) rfl rfl ?_
  refine cl ca55 (c_readHdr _ q 0 512 c _ bs (H.look (b := q)) (by omega) (by omega) (by omega) (by omega)) rfl ?_
  rintro _ w1 ⟨F, hnew, hres⟩
  obtain ⟨A9, e9, rfl, hie, hif, hok⟩ := two_res hres
  obtain ⟨H9, hlt⟩ := H.put2 F hnew
  clear H hres F hnew; have H := H9; clear H9
  refine mv (v := .tuple _) rfl rfl ?_
  refine xt rfl rfl rfl ?_
  refine xt rfl rfl rfl ?_
  refine asg (v := .pointer _) rfl rfl ?_
  first | refine asg (v := .nilIface) rfl rfl ?_ | refine asg (v := .iface _ _) rfl rfl ?_ | refine asg rfl rfl ?_
  refine nl ?_
  refine then_n ?_
  refine sq ?_
  refine sq ?_
  refine rg ?_
  first | refine mv (v := .nilIface) rfl rfl ?_ | refine mv (v := .iface _ _) rfl rfl ?_ | refine mv rfl rfl ?_
  first | refine neqI1 rfl Tryd.underlying74 rfl ?_ | refine neqI0 rfl Tryd.underlying74 rfl ?_ | refine neqIG rfl Tryd.underlying74 (by assumption) rfl ?_
  refine nl ?_
  refine then_n ?_
  first | refine cd rfl (fun hc3 => ?_) (fun hc3 => ?_) | refine cn rfl (fun hc3 => ?_) (fun hc3 => ?_)   -- test 3
  · have hgd : hdrGood bs 0 = false := by have h9 := hif.symm.trans hc3; simpa using h9
    refine sq ?_
    refine rg ?_
    first | refine mv (v := .nilIface) rfl rfl ?_ | refine mv (v := .iface _ _) rfl rfl ?_ | refine mv rfl rfl ?_
    refine asg (v := .pointer _) rfl rfl ?_
    first | refine asg (v := .nilIface) rfl rfl ?_ | refine asg (v := .iface _ _) rfl rfl ?_ | refine asg rfl rfl ?_
    refine nl ?_
    refine then_n ?_
    refine rt ?_
    refine then_r ?_
    refine fin_r ?_
    exact ⟨H.fr, H.look, _, _, rfl, hie, hif, fun h => by rw [hgd] at h; cases h⟩
  · have hgd : hdrGood bs 0 = true := by have h9 := hif.symm.trans hc3; simpa using h9
    obtain ⟨p, rfl, hp1, hp2⟩ := hok hgd
    replace H := H.add hlt hp1 hp2
    refine sk ?_
    refine then_n ?_
    refine sq ?_
    refine dr (by kernel_rfl) ?_   -- region 10
    have H := H.drew
    refine hold (fun _ => True) [] ?_
    refine tk (i := 0) rfl (by kernel_rfl) rfl trivial (fun _ _ => r_mv (v := .pointer _) rfl) ?_
    refine tk (i := 1) rfl (by kernel_rfl) rfl trivial (fun _ _ => r_mv (v := .slice _ _ _) rfl) ?_
    refine tk (i := 2) rfl (by kernel_rfl) rfl trivial (fun _ _ => r_mv (v := .int .i64 _) rfl) ?_
    refine tk (i := 3) rfl (by kernel_rfl) rfl trivial (fun _ _ => r_slhN (512) rfl rfl Tryd.underlying30 sz5_1 (by omega) (by omega)) ?_
    refine tk (i := 4) rfl (by kernel_rfl) rfl trivial (fun _ _ => r_mv (v := .pointer _) rfl) ?_
    first | refine tk (i := 5) rfl (by kernel_rfl) rfl trivial (fun _ _ => r_nc rfl) ?_ | refine tk (i := 5) rfl (by kernel_rfl) rfl trivial (fun _ _ => r_nci rfl) ?_
    refine tk (i := 6) rfl (by kernel_rfl) rfl trivial (fun _ _ => r_fa rfl fo99_11) ?_
    refine unfree ?_
    refine holdH H [12] ?_
    first | refine tk (i := 7) rfl (by kernel_rfl) rfl H (fun w' H => r_ld H rfl sc28 rfl) ?_ | refine tk (i := 7) rfl (by kernel_rfl) rfl H (fun w' H => r_lc rfl (by first | assumption | exact H.fr.cell (by assumption) (by simp)) sc28) ?_ | refine tk (i := 7) rfl (by kernel_rfl) rfl H (fun w' H => r_ld H rfl sc28 (by assumption)) ?_
    refine tk (i := 8) rfl (by kernel_rfl) rfl H (fun w' H => r_cvi (c := fld bs 32 8 % 4294967296) rfl rfl Tryd.underlying53 (m_u32 _)) ?_
    refine fk (i := 9) (by kernel_rfl) rfl rfl rfl ?_
    refine cl ca56 (c_readProt _ q 0 c (pcs (pAt bs 16 [0, 0, 0, 0]) 0 512) (fld bs 32 8 % 4294967296) (RB.of (b := q) (o := 0) (n := 512) H (by rw [zero_len (o := 0) (by omega)]; omega)) (by omega)) rfl ?_
    rintro _ w2 ⟨rfl, F⟩
    replace H := H.keep F; clear F
    refine nl ?_
    refine then_n ?_
    refine ⟨H, ?_⟩
    refine fk (i := 10) (by kernel_rfl) rfl rfl rfl ?_
    first | refine nc rfl rfl ?_ | refine nci rfl rfl ?_
    refine nl ?_
    refine then_n ?_
    refine ⟨H, ?_⟩
    refine tk (i := 11) rfl (by kernel_rfl) rfl H (fun w' H => r_fa rfl fo99_4) ?_
    refine fb (i := 12) (by kernel_rfl) rfl rfl rfl ?_
    refine st (v := .bool _) H rfl rfl sc4 rfl (by first | decide | (simp only [List.length_set, List.length_cons, List.length_nil, List.length_replicate, List.length_append, Bs_length]; omega) | omega) (by omega) ?_
    clear H; intro w3 H _
    refine nl ?_
    refine then_n ?_
    refine dn (by kernel_rfl) ?_
    refine then_n ?_
    refine sq ?_
    refine rg ?_
    refine mv (v := .pointer _) rfl rfl ?_
    refine mv (v := .int .i64 _) rfl rfl ?_
    first | refine nc rfl rfl ?_ | refine nci rfl rfl ?_
    refine fa rfl fo99_1 rfl ?_
    refine st (v := .int .i64 _) H rfl rfl sc3 rfl (by first | decide | (simp only [List.length_set, List.length_cons, List.length_nil, List.length_replicate, List.length_append, Bs_length]; omega) | omega) (by omega) ?_
    clear H; intro w4 H _
    refine nl ?_
    refine then_n ?_
    refine sq ?_
    refine rg ?_
    refine mv (v := .pointer _) rfl rfl ?_
    refine mv (v := .int .i64 _) rfl rfl ?_
    first | refine nc rfl rfl ?_ | refine nci rfl rfl ?_
    refine fa rfl fo99_2 rfl ?_
    refine st (v := .int .i64 _) H rfl rfl sc3 rfl (by first | decide | (simp only [List.length_set, List.length_cons, List.length_nil, List.length_replicate, List.length_append, Bs_length]; omega) | omega) (by omega) ?_
    clear H; intro w5 H _
    refine nl ?_
    refine then_n ?_
    refine sq ?_
    refine rg ?_
    refine mv (v := .pointer _) rfl rfl ?_
    first | refine nc rfl rfl ?_ | refine nci rfl rfl ?_
    refine fa rfl fo99_14 rfl ?_
    refine st (v := .bool _) H rfl rfl sc4 rfl (by first | decide | (simp only [List.length_set, List.length_cons, List.length_nil, List.length_replicate, List.length_append, Bs_length]; omega) | omega) (by omega) ?_
    clear H; intro w6 H _
    refine nl ?_
    refine then_n ?_
    refine sq ?_
    refine rg ?_
    refine mv (v := .pointer _) rfl rfl ?_
    refine asg (v := .pointer _) rfl rfl ?_
    refine asg (v := .nilIface) rfl rfl ?_
    refine nl ?_
    refine then_n ?_
    refine rt ?_
    refine fin_r ?_
    replace H := sh_cells0 (cs' := tbC none 0 0 512 512 (gT (pcs bs 56 16)) _ false (fld bs 80 4) (fld bs 84 4) (fld bs 72 8) (fld bs 88 4) (fld bs 24 8) (fld bs 32 8) (fld bs 40 8) (fld bs 48 8) true) H rfl
    exact ⟨H.fr, H.look, _, _, rfl, .inl rfl, by rw [hgd]; rfl, fun _ => ⟨_, rfl, H.ge1 rfl (y := ⟨q, _, true⟩) (by repeat (first | exact .head _ | apply List.Mem.tail)) rfl, _, H.look⟩⟩

set_option maxRecDepth 100000 in
set_option maxHeartbeats 4000000 in
theorem c_verify (w : World) (p b : Nat) (D : Option Addr) (k cap : Nat) (g : List UInt8) (pr rb ini : Bool) (f crc my : Int) (hp : w.heap[p]? = some (.cells (tbC D k cap 512 512 g pr rb 128 128 f crc my (b : Int) 34 ((b : Int) - 33) ini).toArray 99 (0, 0))) (bm bd L c : Nat) (ds : List UInt8) (hm : w.cell? ⟨bm, 0, none⟩ = some (.slice (some ⟨bd, 0, none⟩) L c)) (hd : RB w (some ⟨bd, 0, none⟩) L ds) (hL : 512 ≤ L ∧ L ≤ 1000000000) (hLc : L ≤ c) (hb : 512 * b + 512 ≤ L) (hb2 : 33 ≤ b ∧ b ≤ 1000000) (hg : hdrGood ds (512 * b) = true) (hf : fld ds (512 * b + 40) 8 = 34) : Calls Tryd.prog 36 #[.pointer (some ⟨p, 0, none⟩), .iface 65 (.pointer (some ⟨bm, 0, none⟩)), .int .u64 (((b : Int) + 1) * 512)] w (Ret fun v w' => v = .nilIface ∧ Fr [] w w') := by
  refine enter (fun ρ => ρ 6) Tryd.func36 rfl rfl rfl (res1 rfl) ?_
  have H := SH.nil w
  have hbm := cell_lt0 hm
  have hbd := hd.lt (by omega)
  have hdl := hd.1
  have hbl : (pcs ds (512 * b) 512).length = 512 := pcs_len (by omega)
  have hgA : hdrGood (pcs ds (512 * b) 512) 0 = true := by rw [hdrA]; exact hg
  have hfA : fld (pcs ds (512 * b) 512) 40 8 = 34 := by rw [fldA (by decide)]; exact hf
  have t1 : w.cell? ⟨p, 1, none⟩ = some (.int .i64 512) := cell_at hp
  have t2 : w.cell? ⟨p, 2, none⟩ = some (.int .i64 512) := cell_at hp
  have t6 : w.cell? ⟨p, 6, none⟩ = some (.int .i64 128) := cell_at hp
  have t7 : w.cell? ⟨p, 7, none⟩ = some (.int .u32 128) := cell_at hp
  have t11 : w.cell? ⟨p, 11, none⟩ = some (.int .u64 (b : Int)) := cell_at hp
  have t12 : w.cell? ⟨p, 12, none⟩ = some (.int .u64 34) := cell_at hp
  have t13 : w.cell? ⟨p, 13, none⟩ = some (.int .u64 ((b : Int) - 33)) := cell_at hp
  refine sq ?_
  refine rg ?_
  refine asg (v := .nilIface) rfl rfl ?_
  refine nl ?_
  refine then_n ?_
  refine sq ?_
  refine sq ?_
  refine rg ?_
  refine mv (v := .pointer _) rfl rfl ?_
  first | refine nc rfl rfl ?_ | refine nci rfl rfl ?_
  refine fa rfl fo99_1 rfl ?_
  first | refine ld H rfl sc3 rfl rfl ?_ | refine lc rfl (by first | assumption | exact H.fr.cell (by assumption) (by simp)) sc3 rfl ?_ | refine ld H rfl sc3 (by assumption) rfl ?_
  refine eql rfl rfl rfl ?_
  refine nl ?_
  refine then_n ?_
  first | refine cF rfl rfl ?_ | refine cbF rfl rfl ?_   -- test 1
  refine sk ?_
  refine then_n ?_
  refine sq ?_
  refine dr (by kernel_rfl) ?_   -- region 3
  have H := H.drew
  refine hold (fun _ => True) [] ?_
  refine tk (i := 0) rfl (by kernel_rfl) rfl trivial (fun _ _ => r_mv (v := .pointer _) rfl) ?_
  first | refine tk (i := 1) rfl (by kernel_rfl) rfl trivial (fun _ _ => r_nc rfl) ?_ | refine tk (i := 1) rfl (by kernel_rfl) rfl trivial (fun _ _ => r_nci rfl) ?_
  refine tk (i := 2) rfl (by kernel_rfl) rfl trivial (fun _ _ => r_fa rfl fo99_11) ?_
  refine tk (i := 5) rfl (by kernel_rfl) rfl trivial (fun _ _ => r_mv (v := .pointer _) rfl) ?_
  first | refine tk (i := 6) rfl (by kernel_rfl) rfl trivial (fun _ _ => r_nc rfl) ?_ | refine tk (i := 6) rfl (by kernel_rfl) rfl trivial (fun _ _ => r_nci rfl) ?_
  refine tk (i := 7) rfl (by kernel_rfl) rfl trivial (fun _ _ => r_fa rfl fo99_1) ?_
  refine unfree ?_
  refine holdH H [] ?_
  first | refine tk (i := 3) rfl (by kernel_rfl) rfl H (fun w' H => r_ld H rfl sc28 rfl) ?_ | refine tk (i := 3) rfl (by kernel_rfl) rfl H (fun w' H => r_lc rfl (by first | assumption | exact H.fr.cell (by assumption) (by simp)) sc28) ?_ | refine tk (i := 3) rfl (by kernel_rfl) rfl H (fun w' H => r_ld H rfl sc28 (by assumption)) ?_
  refine tk (i := 4) rfl (by kernel_rfl) rfl H (fun w' H => r_add rfl rfl (by first | exact w_u64 (by omega) | exact w_u64 (rng_u64 _) | exact m_u64 _)) ?_
  first | refine tk (i := 8) rfl (by kernel_rfl) rfl H (fun w' H => r_ld H rfl sc3 rfl) ?_ | refine tk (i := 8) rfl (by kernel_rfl) rfl H (fun w' H => r_lc rfl (by first | assumption | exact H.fr.cell (by assumption) (by simp)) sc3) ?_ | refine tk (i := 8) rfl (by kernel_rfl) rfl H (fun w' H => r_ld H rfl sc3 (by assumption)) ?_
  refine tk (i := 9) rfl (by kernel_rfl) rfl H (fun w' H => r_cvi rfl rfl Tryd.underlying28 (by first | exact w_u64 (by omega) | exact w_u64 (rng_u64 _) | exact m_u64 _)) ?_
  refine tk (i := 10) rfl (by kernel_rfl) rfl H (fun w' H => r_mul (c := ((b : Int) + 1) * 512) rfl rfl (by rw [w_u64 (by omega)])) ?_
  refine tk (i := 11) rfl (by kernel_rfl) rfl H (fun w' H => r_asg (v := .int .u64 _) rfl) ?_
  refine da (by kernel_rfl) ?_
  refine then_n ?_
  refine sq ?_
  refine sq ?_
  refine rg ?_
  refine mv (v := .int .u64 _) rfl rfl ?_
  refine mv (v := .int .u64 _) rfl rfl ?_
  refine neq rfl rfl rfl ?_
  refine nl ?_
  refine then_n ?_
  first | refine cF rfl (by omega) ?_ | refine cbF rfl (by omega) ?_   -- test 2
  refine sk ?_
  refine then_n ?_
  refine sq ?_
  refine rg ?_
  refine mv (v := .pointer _) rfl rfl ?_
  first | refine nc rfl rfl ?_ | refine nci rfl rfl ?_
  refine fa rfl fo99_1 rfl ?_
  first | refine ld H rfl sc3 rfl rfl ?_ | refine lc rfl (by first | assumption | exact H.fr.cell (by assumption) (by simp)) sc3 rfl ?_ | refine ld H rfl sc3 (by assumption) rfl ?_
  have hsz := H.size
  refine mkB H rfl rfl Tryd.underlying30 mi5 (by omega) (by omega) (by omega) (by omega) rfl ?_
  clear H; intro b1 w1 hb1 H _
  refine asg (v := .slice _ _ _) rfl rfl ?_
  refine nl ?_
  refine then_n ?_
  refine sq ?_
  refine dr (by kernel_rfl) ?_   -- region 7
  have H := H.drew
  refine hold (fun _ => True) [] ?_
  refine tk (i := 0) rfl (by kernel_rfl) rfl trivial (fun _ _ => r_mv (v := .pointer _) rfl) ?_
  first | refine tk (i := 1) rfl (by kernel_rfl) rfl trivial (fun _ _ => r_nc rfl) ?_ | refine tk (i := 1) rfl (by kernel_rfl) rfl trivial (fun _ _ => r_nci rfl) ?_
  refine tk (i := 2) rfl (by kernel_rfl) rfl trivial (fun _ _ => r_fa rfl fo99_11) ?_
  refine tk (i := 5) rfl (by kernel_rfl) rfl trivial (fun _ _ => r_mv (v := .pointer _) rfl) ?_
  first | refine tk (i := 6) rfl (by kernel_rfl) rfl trivial (fun _ _ => r_nc rfl) ?_ | refine tk (i := 6) rfl (by kernel_rfl) rfl trivial (fun _ _ => r_nci rfl) ?_
  refine tk (i := 7) rfl (by kernel_rfl) rfl trivial (fun _ _ => r_fa rfl fo99_1) ?_
  refine unfree ?_
  refine holdH H [] ?_
  first | refine tk (i := 3) rfl (by kernel_rfl) rfl H (fun w' H => r_ld H rfl sc28 rfl) ?_ | refine tk (i := 3) rfl (by kernel_rfl) rfl H (fun w' H => r_lc rfl (by first | assumption | exact H.fr.cell (by assumption) (by simp)) sc28) ?_ | refine tk (i := 3) rfl (by kernel_rfl) rfl H (fun w' H => r_ld H rfl sc28 (by assumption)) ?_
  refine tk (i := 4) rfl (by kernel_rfl) rfl H (fun w' H => r_cvi rfl rfl Tryd.underlying2 (by first | exact w_i64 (by omega) | exact w_i64 (rng_i64 _) | rfl)) ?_
  first | refine tk (i := 8) rfl (by kernel_rfl) rfl H (fun w' H => r_ld H rfl sc3 rfl) ?_ | refine tk (i := 8) rfl (by kernel_rfl) rfl H (fun w' H => r_lc rfl (by first | assumption | exact H.fr.cell (by assumption) (by simp)) sc3) ?_ | refine tk (i := 8) rfl (by kernel_rfl) rfl H (fun w' H => r_ld H rfl sc3 (by assumption)) ?_
  refine tk (i := 9) rfl (by kernel_rfl) rfl H (fun w' H => r_mul (c := ((512 * b : Nat) : Int)) rfl rfl (by rw [w_i64 (by omega)]; omega)) ?_
  refine tk (i := 10) rfl (by kernel_rfl) rfl H (fun w' H => r_asg (v := .int .i64 _) rfl) ?_
  refine da (by kernel_rfl) ?_
  refine then_n ?_
  refine sq ?_
  refine rg ?_
  first | refine mv (v := .nilIface) rfl rfl ?_ | refine mv (v := .iface _ _) rfl rfl ?_ | refine mv rfl rfl ?_
  refine mv (v := .slice _ _ _) rfl rfl ?_
  refine mv (v := .int .i64 _) rfl rfl ?_
  refine mc rfl me65_ReadAt ca99 (c_readAt _ bm bd b1 L c (512 * b) 0 512 512 _ ds (List.replicate 512 0) (H.fr.cell hm (by simp)) (hd.keep H.fr) (H.look (b := b1)) ⟨fun h => by simp at hbm; omega, fun h => by omega⟩ (by omega) (by omega) (by decide) (by rw [List.length_replicate]; decide) (by omega)) rfl ?_
  rintro _ w2 ⟨rfl, F, hnew⟩
  replace H := H.put (b := b1) F hnew; clear F hnew
  replace H := sh_cells0 H (congrArg Bs (pAt_all (by rw [hbl, List.length_replicate])))
  refine mv (v := .tuple _) rfl rfl ?_
  refine xt rfl rfl rfl ?_
  refine xt rfl rfl rfl ?_
  refine asg (v := .int .i64 _) rfl rfl ?_
  first | refine asg (v := .nilIface) rfl rfl ?_ | refine asg (v := .iface _ _) rfl rfl ?_ | refine asg rfl rfl ?_
  refine nl ?_
  refine then_n ?_
  refine sq ?_
  refine sq ?_
  refine rg ?_
  first | refine mv (v := .nilIface) rfl rfl ?_ | refine mv (v := .iface _ _) rfl rfl ?_ | refine mv rfl rfl ?_
  first | refine neqI1 rfl Tryd.underlying74 rfl ?_ | refine neqI0 rfl Tryd.underlying74 rfl ?_ | refine neqIG rfl Tryd.underlying74 (by assumption) rfl ?_
  refine nl ?_
  refine then_n ?_
  first | refine cF rfl rfl ?_ | refine cbF rfl rfl ?_   -- test 3
  refine sk ?_
  refine then_n ?_
  refine sq ?_
  refine dr (by kernel_rfl) ?_   -- region 11
  have H := H.drew
  refine hold (fun _ => True) [] ?_
  refine tk (i := 0) rfl (by kernel_rfl) rfl trivial (fun _ _ => r_mv (v := .slice _ _ _) rfl) ?_
  refine tk (i := 1) rfl (by kernel_rfl) rfl trivial (fun _ _ => r_mv (v := .pointer _) rfl) ?_
  first | refine tk (i := 2) rfl (by kernel_rfl) rfl trivial (fun _ _ => r_nc rfl) ?_ | refine tk (i := 2) rfl (by kernel_rfl) rfl trivial (fun _ _ => r_nci rfl) ?_
  refine tk (i := 3) rfl (by kernel_rfl) rfl trivial (fun _ _ => r_fa rfl fo99_1) ?_
  refine tk (i := 5) rfl (by kernel_rfl) rfl trivial (fun _ _ => r_mv (v := .pointer _) rfl) ?_
  first | refine tk (i := 6) rfl (by kernel_rfl) rfl trivial (fun _ _ => r_nc rfl) ?_ | refine tk (i := 6) rfl (by kernel_rfl) rfl trivial (fun _ _ => r_nci rfl) ?_
  refine tk (i := 7) rfl (by kernel_rfl) rfl trivial (fun _ _ => r_fa rfl fo99_2) ?_
  refine unfree ?_
  refine holdH H [9] ?_
  first | refine tk (i := 4) rfl (by kernel_rfl) rfl H (fun w' H => r_ld H rfl sc3 rfl) ?_ | refine tk (i := 4) rfl (by kernel_rfl) rfl H (fun w' H => r_lc rfl (by first | assumption | exact H.fr.cell (by assumption) (by simp)) sc3) ?_ | refine tk (i := 4) rfl (by kernel_rfl) rfl H (fun w' H => r_ld H rfl sc3 (by assumption)) ?_
  first | refine tk (i := 8) rfl (by kernel_rfl) rfl H (fun w' H => r_ld H rfl sc3 rfl) ?_ | refine tk (i := 8) rfl (by kernel_rfl) rfl H (fun w' H => r_lc rfl (by first | assumption | exact H.fr.cell (by assumption) (by simp)) sc3) ?_ | refine tk (i := 8) rfl (by kernel_rfl) rfl H (fun w' H => r_ld H rfl sc3 (by assumption)) ?_
  refine fb (i := 9) (by kernel_rfl) rfl rfl rfl ?_
  refine cl ca50 (c_tabHead _ b1 512 _ (pcs ds (512 * b) 512) (H.look (b := b1)) (by decide) hbl) rfl ?_
  rintro _ w3 ⟨F, hnew, A9, e9, rfl, hie, hif, hok⟩
  obtain ⟨H9, hlt⟩ := H.put2 (b := b1) F hnew
  have hisf : isIf e9 = false := by rw [hif, hgA]; rfl
  obtain ⟨p2, rfl, hp1, pb, hp2⟩ := hok hgA
  rw [hfA] at hp2
  have H := H9.add hlt hp1 hp2
  refine nl ?_
  refine then_n ?_
  refine holdH H [] ?_
  refine tk (i := 10) rfl (by kernel_rfl) rfl H (fun w' H => r_mv (v := .tuple _) rfl) ?_
  refine tk (i := 11) rfl (by kernel_rfl) rfl H (fun w' H => r_xt rfl rfl) ?_
  refine tk (i := 12) rfl (by kernel_rfl) rfl H (fun w' H => r_xt rfl rfl) ?_
  refine tk (i := 13) rfl (by kernel_rfl) rfl H (fun w' H => r_asg (v := .pointer _) rfl) ?_
  first | refine tk (i := 14) rfl (by kernel_rfl) rfl H (fun w' H => r_asg (v := .nilIface) rfl) ?_ | refine tk (i := 14) rfl (by kernel_rfl) rfl H (fun w' H => r_asg (v := .iface _ _) rfl) ?_ | refine tk (i := 14) rfl (by kernel_rfl) rfl H (fun w' H => r_asg rfl) ?_
  refine da (by kernel_rfl) ?_
  refine then_n ?_
  refine sq ?_
  refine sq ?_
  refine rg ?_
  first | refine mv (v := .nilIface) rfl rfl ?_ | refine mv (v := .iface _ _) rfl rfl ?_ | refine mv rfl rfl ?_
  first | refine neqI1 rfl Tryd.underlying74 rfl ?_ | refine neqI0 rfl Tryd.underlying74 rfl ?_ | refine neqIG rfl Tryd.underlying74 (by assumption) rfl ?_
  refine nl ?_
  refine then_n ?_
  first | refine cF rfl hisf ?_ | refine cbF rfl hisf ?_   -- test 4
  refine sk ?_
  refine then_n ?_
  refine sq ?_
  refine sq ?_
  refine dr (by kernel_rfl) ?_   -- region 14
  have H := H.drew
  refine hold (fun _ => True) [] ?_
  refine tk (i := 0) rfl (by kernel_rfl) rfl trivial (fun _ _ => r_mv (v := .pointer _) rfl) ?_
  first | refine tk (i := 1) rfl (by kernel_rfl) rfl trivial (fun _ _ => r_nc rfl) ?_ | refine tk (i := 1) rfl (by kernel_rfl) rfl trivial (fun _ _ => r_nci rfl) ?_
  refine tk (i := 2) rfl (by kernel_rfl) rfl trivial (fun _ _ => r_fa rfl fo99_12) ?_
  refine tk (i := 4) rfl (by kernel_rfl) rfl trivial (fun _ _ => r_mv (v := .pointer _) rfl) ?_
  first | refine tk (i := 5) rfl (by kernel_rfl) rfl trivial (fun _ _ => r_nc rfl) ?_ | refine tk (i := 5) rfl (by kernel_rfl) rfl trivial (fun _ _ => r_nci rfl) ?_
  refine tk (i := 6) rfl (by kernel_rfl) rfl trivial (fun _ _ => r_fa rfl fo99_12) ?_
  refine unfree ?_
  refine holdH H [] ?_
  first | refine tk (i := 3) rfl (by kernel_rfl) rfl H (fun w' H => r_ld H rfl sc28 rfl) ?_ | refine tk (i := 3) rfl (by kernel_rfl) rfl H (fun w' H => r_lc rfl (by first | assumption | exact H.fr.cell (by assumption) (by simp)) sc28) ?_ | refine tk (i := 3) rfl (by kernel_rfl) rfl H (fun w' H => r_ld H rfl sc28 (by assumption)) ?_
  first | refine tk (i := 7) rfl (by kernel_rfl) rfl H (fun w' H => r_ld H rfl sc28 rfl) ?_ | refine tk (i := 7) rfl (by kernel_rfl) rfl H (fun w' H => r_lc rfl (by first | assumption | exact H.fr.cell (by assumption) (by simp)) sc28) ?_ | refine tk (i := 7) rfl (by kernel_rfl) rfl H (fun w' H => r_ld H rfl sc28 (by assumption)) ?_
  refine tk (i := 8) rfl (by kernel_rfl) rfl H (fun w' H => r_neq rfl rfl) ?_
  refine da (by kernel_rfl) ?_
  refine then_n ?_
  first | refine cF rfl (by omega) ?_ | refine cbF rfl (by omega) ?_   -- test 5
  refine sk ?_
  refine then_n ?_
  refine sq ?_
  refine dr (by kernel_rfl) ?_   -- region 16
  have H := H.drew
  refine hold (fun _ => True) [] ?_
  refine tk (i := 0) rfl (by kernel_rfl) rfl trivial (fun _ _ => r_mv (v := .pointer _) rfl) ?_
  first | refine tk (i := 1) rfl (by kernel_rfl) rfl trivial (fun _ _ => r_nc rfl) ?_ | refine tk (i := 1) rfl (by kernel_rfl) rfl trivial (fun _ _ => r_nci rfl) ?_
  refine tk (i := 2) rfl (by kernel_rfl) rfl trivial (fun _ _ => r_fa rfl fo99_6) ?_
  refine tk (i := 5) rfl (by kernel_rfl) rfl trivial (fun _ _ => r_mv (v := .pointer _) rfl) ?_
  first | refine tk (i := 6) rfl (by kernel_rfl) rfl trivial (fun _ _ => r_nc rfl) ?_ | refine tk (i := 6) rfl (by kernel_rfl) rfl trivial (fun _ _ => r_nci rfl) ?_
  refine tk (i := 7) rfl (by kernel_rfl) rfl trivial (fun _ _ => r_fa rfl fo99_7) ?_
  refine tk (i := 11) rfl (by kernel_rfl) rfl trivial (fun _ _ => r_mv (v := .pointer _) rfl) ?_
  first | refine tk (i := 12) rfl (by kernel_rfl) rfl trivial (fun _ _ => r_nc rfl) ?_ | refine tk (i := 12) rfl (by kernel_rfl) rfl trivial (fun _ _ => r_nci rfl) ?_
  refine tk (i := 13) rfl (by kernel_rfl) rfl trivial (fun _ _ => r_fa rfl fo99_1) ?_
  refine unfree ?_
  refine holdH H [] ?_
  first | refine tk (i := 3) rfl (by kernel_rfl) rfl H (fun w' H => r_ld H rfl sc3 rfl) ?_ | refine tk (i := 3) rfl (by kernel_rfl) rfl H (fun w' H => r_lc rfl (by first | assumption | exact H.fr.cell (by assumption) (by simp)) sc3) ?_ | refine tk (i := 3) rfl (by kernel_rfl) rfl H (fun w' H => r_ld H rfl sc3 (by assumption)) ?_
  refine tk (i := 4) rfl (by kernel_rfl) rfl H (fun w' H => r_cvi rfl rfl Tryd.underlying28 (by first | exact w_u64 (by omega) | exact w_u64 (rng_u64 _) | exact m_u64 _)) ?_
  first | refine tk (i := 8) rfl (by kernel_rfl) rfl H (fun w' H => r_ld H rfl sc53 rfl) ?_ | refine tk (i := 8) rfl (by kernel_rfl) rfl H (fun w' H => r_lc rfl (by first | assumption | exact H.fr.cell (by assumption) (by simp)) sc53) ?_ | refine tk (i := 8) rfl (by kernel_rfl) rfl H (fun w' H => r_ld H rfl sc53 (by assumption)) ?_
  refine tk (i := 9) rfl (by kernel_rfl) rfl H (fun w' H => r_cvi rfl rfl Tryd.underlying28 (by first | exact w_u64 (by omega) | exact w_u64 (rng_u64 _) | exact m_u64 _)) ?_
  refine tk (i := 10) rfl (by kernel_rfl) rfl H (fun w' H => r_mul rfl rfl (by first | exact w_u64 (by omega) | exact w_u64 (rng_u64 _) | exact m_u64 _)) ?_
  first | refine tk (i := 14) rfl (by kernel_rfl) rfl H (fun w' H => r_ld H rfl sc3 rfl) ?_ | refine tk (i := 14) rfl (by kernel_rfl) rfl H (fun w' H => r_lc rfl (by first | assumption | exact H.fr.cell (by assumption) (by simp)) sc3) ?_ | refine tk (i := 14) rfl (by kernel_rfl) rfl H (fun w' H => r_ld H rfl sc3 (by assumption)) ?_
  refine tk (i := 15) rfl (by kernel_rfl) rfl H (fun w' H => r_cvi rfl rfl Tryd.underlying28 (by first | exact w_u64 (by omega) | exact w_u64 (rng_u64 _) | exact m_u64 _)) ?_
  refine tk (i := 16) rfl (by kernel_rfl) rfl H (fun w' H => r_quo (c := 32) rfl rfl (by decide) (by decide) rfl) ?_
  refine tk (i := 17) rfl (by kernel_rfl) rfl H (fun w' H => r_asg (v := .int .u64 _) rfl) ?_
  refine da (by kernel_rfl) ?_
  refine then_n ?_
  refine sq ?_
  refine rg ?_
  refine mv (v := .pointer _) rfl rfl ?_
  first | refine nc rfl rfl ?_ | refine nci rfl rfl ?_
  refine fa rfl fo99_11 rfl ?_
  first | refine ld H rfl sc28 rfl rfl ?_ | refine lc rfl (by first | assumption | exact H.fr.cell (by assumption) (by simp)) sc28 rfl ?_ | refine ld H rfl sc28 (by assumption) rfl ?_
  refine mv (v := .int .u64 _) rfl rfl ?_
  refine sub rfl rfl (by first | exact w_u64 (by omega) | exact w_u64 (rng_u64 _) | exact m_u64 _) rfl ?_
  refine sub (c := (b : Int) - 33) rfl rfl (by rw [w_u64 (by omega)]; omega) rfl ?_
  refine asg (v := .int .u64 _) rfl rfl ?_
  refine nl ?_
  refine then_n ?_
  refine sq ?_
  refine sq ?_
  refine rg ?_
  refine mv (v := .pointer _) rfl rfl ?_
  first | refine nc rfl rfl ?_ | refine nci rfl rfl ?_
  refine fa rfl fo99_13 rfl ?_
  first | refine ld H rfl sc28 rfl rfl ?_ | refine lc rfl (by first | assumption | exact H.fr.cell (by assumption) (by simp)) sc28 rfl ?_ | refine ld H rfl sc28 (by assumption) rfl ?_
  refine mv (v := .int .u64 _) rfl rfl ?_
  refine neq rfl rfl rfl ?_
  refine nl ?_
  refine then_n ?_
  first | refine cF rfl (by omega) ?_ | refine cbF rfl (by omega) ?_   -- test 6
  refine sk ?_
  refine then_n ?_
  refine sq ?_
  refine rg ?_
  refine asg (v := .nilIface) rfl rfl ?_
  refine nl ?_
  refine then_n ?_
  refine rt ?_
  refine fin_r ?_
  exact ⟨rfl, H.fr⟩

set_option maxRecDepth 100000 in
set_option maxHeartbeats 1000000 in
theorem c_implVerify (w : World) (B : Option Addr) (n c : Nat) (ds : List UInt8) (hR : RB w B n ds) (hL : 34816 ≤ n ∧ n ≤ 10000000) (b f : Nat) (hLb : n = 512 * (b + 1)) (hf : 512 * f + 16384 ≤ n) (hcan1 : hdrGood ds 512 = true → fld ds 584 8 = 2 ∧ fld ds 592 4 = 128 ∧ fld ds 596 4 = 128) (hcan2 : hdrGood ds (512 * b) = true → fld ds (512 * b + 72) 8 = (f : Int) ∧ fld ds (512 * b + 80) 4 = 128 ∧ fld ds (512 * b + 84) 4 = 128) (hfit1 : fitsB ds 512 512 = true) (hfit2 : fitsB ds 512 (512 * b) = true) (hG1 : (hdrGood ds 512 && decide (fld ds 600 4 = crc32 (pcs ds 1024 16384))) = true) (h544 : fld ds 544 8 = (b : Int)) (h552 : fld ds 552 8 = 34) (h560 : fld ds 560 8 = (b : Int) - 33) (hg2 : hdrGood ds (512 * b) = true) (h40 : fld ds (512 * b + 40) 8 = 34) : Calls Tryd.prog 18 #[.slice B n c, .int .i64 512, .int .u64 (((b : Int) + 1) * 512)] w (Ret fun v w' => v = .tuple #[.bool true, .bool true] ∧ Fr [] w w') := by
  refine enter (fun ρ => .tuple #[ρ 6, ρ 7]) Tryd.func18 rfl rfl rfl (res2 rfl) ?_
  have H := SH.nil w
  have hdl := hR.1
  refine sq ?_
  refine rg ?_
  refine asg (v := .bool _) rfl rfl ?_
  refine asg (v := .bool _) rfl rfl ?_
  refine nl ?_
  refine then_n ?_
  refine sq ?_
  refine rg ?_
  refine mv (v := .slice _ _ _) rfl rfl ?_
  refine cvBS rfl (by exact hR.keep H.fr) Tryd.underlying30 Tryd.underlying5 Tryd.underlying9 rfl ?_
  refine cl ca30 (c_memoryOf _ ds (by omega)) rfl ?_
  rintro _ w1 ⟨bm, bd, cm, rfl, hcm, K⟩
  replace H := H.join K (by simp); simp only [List.cons_append, List.nil_append] at H; clear K
  refine asg (v := .pointer _) rfl rfl ?_
  refine nl ?_
  refine then_n ?_
  refine sq ?_
  refine rg ?_
  refine mv (v := .pointer _) rfl rfl ?_
  refine mv (v := .int .i64 _) rfl rfl ?_
  refine cl ca29 (c_implRead _ bm bd ds.length cm _ _ _ ds (H.look (b := bm)) (RB.pre H) (H.ne_of rfl (y := ⟨bd, _, true⟩) (by repeat (first | exact .head _ | apply List.Mem.tail))) (by omega) hcm b f (by omega) (by omega) hcan1 hcan2 hfit1 hfit2) rfl ?_
  rintro _ w2 ⟨F, ⟨x9, hm9⟩, A9, rfl, hr1, hr2⟩
  rw [hG1, Bool.true_or]
  obtain ⟨p, rfl, D, cap, l, k1, k2, O⟩ := hr1 hG1
  rw [h544, h552, h560] at O
  obtain ⟨H9, hlt⟩ := H.put2 (b := bm) F hm9
  have hpn := O.sh.look (b := p)
  have hpb : p ≠ bm := by
    intro e; subst e; rw [hm9] at hpn; simp at hpn
  have hpg := (O.sh.mu _ (.head _) rfl).resolve_left (by simpa using hpb)
  have H := H9.add hlt hpg hpn
  clear H9 O
  refine mv (v := .tuple _) rfl rfl ?_
  refine xt rfl rfl rfl ?_
  refine xt rfl rfl rfl ?_
  refine asg (v := .pointer _) rfl rfl ?_
  refine asg (v := .bool _) rfl rfl ?_
  refine nl ?_
  refine then_n ?_
  refine sq ?_
  refine sq ?_
  refine rg ?_
  refine mv (v := .bool _) rfl rfl ?_
  refine unot rfl rfl ?_
  refine nl ?_
  refine then_n ?_
  first | refine cF rfl rfl ?_ | refine cbF rfl rfl ?_   -- test 1
  refine sk ?_
  refine then_n ?_
  refine sq ?_
  refine rg ?_
  refine mv (v := .pointer _) rfl rfl ?_
  refine mv (v := .pointer _) rfl rfl ?_
  refine mi (v := .pointer _) rfl cc65 rfl ?_
  refine mv (v := .int .u64 _) rfl rfl ?_
  refine cl ca36 (c_verify _ p b _ _ _ _ _ _ _ _ _ _ (H.look (b := p)) bm bd ds.length cm ds (cell_at (H.look (b := bm))) (RB.pre H) (by omega) (by omega) (by omega) (by omega) hg2 h40) rfl ?_
  rintro _ w3 ⟨rfl, F⟩
  replace H := H.keep F; clear F
  first | refine eqlI1 rfl Tryd.underlying74 rfl ?_ | refine eqlI0 rfl Tryd.underlying74 rfl ?_ | refine eqlIG rfl Tryd.underlying74 (by assumption) rfl ?_
  refine asg (v := .bool _) rfl rfl ?_
  refine asg (v := .bool _) rfl rfl ?_
  refine nl ?_
  refine then_n ?_
  refine rt ?_
  refine fin_r ?_
  exact ⟨rfl, H.fr⟩

end Go.Proofs.YthcaejaaalkglaaDoor.X
/- Walks of functions, printed by a program of this claim. -/
namespace Go.Proofs.YthcaejaaalkglaaDoor.X
set_option linter.unusedVariables false
set_option linter.unusedSimpArgs false
open Go Go.RowKit

namespace P35
theorem ag24_5 : aggB Tryd.prog 24 5 = true := by kernel_rfl
theorem ca10 : callable Tryd.prog 10 = true := by kernel_rfl
theorem ca11 : callable Tryd.prog 11 = true := by kernel_rfl
theorem ca18 : callable Tryd.prog 18 = true := by kernel_rfl
theorem ca7 : callable Tryd.prog 7 = true := by kernel_rfl
theorem ca8 : callable Tryd.prog 8 = true := by kernel_rfl
theorem ca9 : callable Tryd.prog 9 = true := by kernel_rfl
theorem fo24_1 : fieldOff Tryd.prog 24 1 = some 1 := by kernel_rfl
theorem fo24_3 : fieldOff Tryd.prog 24 3 = some 3 := by kernel_rfl
theorem sc3 : scalarB Tryd.prog 3 = true := by kernel_rfl
theorem sc4 : scalarB Tryd.prog 4 = true := by kernel_rfl

end P35
open P35

set_option maxRecDepth 100000 in
set_option maxHeartbeats 4000000 in
theorem c_FnGptVerifies (w : World) (D : Option Addr) (m c : Nat) (sec : Int) (g : List UInt8) (pr rc : Bool) (ps : List GP) (hq : RG w D m c ps) (hU : Utf8W w) (x : Int) (hx : 0 ≤ x ∧ x ≤ 65535) : Calls Tryd.prog 6 #[.agg (gtCells D m c sec g pr rc).toArray, .int .u16 x] w (Ret fun v w' => v = .bool true ∧ Fr [] w w') := by
  refine enter (fun ρ => ρ 4) Tryd.func6 rfl rfl rfl (res1 rfl) ?_
  have H := SH.nil w
  have hql := hq.len
  obtain ⟨n, hnn⟩ : ∃ n : Nat, (n : Int) = 80 + x % 200 := ⟨(80 + x % 200).toNat, by omega⟩
  have hn : 80 ≤ n ∧ n ≤ 1000000 := by omega
  refine sq ?_
  refine rg ?_
  refine bx (v := .agg _) H rfl rfl rfl ?_
  clear H; intro b1 w1 hb1 H _
  refine asg (v := .bool _) rfl rfl ?_
  refine nl ?_
  refine then_n ?_
  refine sq ?_
  refine sq ?_
  refine rg ?_
  first | refine la H rfl ag24_5 rfl rfl rfl ?_ | refine lw rfl ag24_5 rfl (by assumption) rfl ?_
  refine cl ca7 (c_fits5 _ D m c sec g pr rc ps (hq.keep H.fr)) rfl ?_
  rintro _ w2 ⟨g5, rfl, g5h, F⟩
  replace H := H.keep F; clear F
  refine unot rfl rfl ?_
  refine nl ?_
  refine then_n ?_
  first | refine cd rfl (fun hc1 => ?_) (fun hc1 => ?_) | refine cn rfl (fun hc1 => ?_) (fun hc1 => ?_)   -- test 1
  · refine sq ?_
    refine rg ?_
    refine asg (v := .bool _) rfl rfl ?_
    refine nl ?_
    refine then_n ?_
    refine rt ?_
    refine then_r ?_
    refine fin_r ?_
    exact ⟨rfl, H.fr⟩
  · have h5 := g5h (by simpa using hc1)
    refine sk ?_
    refine then_n ?_
    refine sq ?_
    refine rg ?_
    refine mv (v := .int .u16 _) rfl rfl ?_
    refine cvi rfl rfl Tryd.underlying3 (by first | exact w_i64 (by omega) | exact w_i64 (rng_i64 _) | rfl) rfl ?_
    refine rem rfl rfl (by omega) (by omega) rfl rfl ?_
    refine add (c := (n : Int)) rfl rfl (by rw [w_i64 (by omega)]; omega) rfl ?_
    refine asg (v := .int .i64 _) rfl rfl ?_
    refine nl ?_
    refine then_n ?_
    refine sq ?_
    refine rg ?_
    refine fa rfl fo24_1 rfl ?_
    refine st (v := .int .i64 _) H rfl rfl sc3 rfl (by show 0 + 1 < 5; decide) (by omega) ?_
    clear H; intro w91 H _
    refine fa rfl fo24_3 rfl ?_
    refine st (v := .bool _) H rfl rfl sc4 rfl (by show 0 + 3 < 5; decide) (by omega) ?_
    clear H; intro w92 H _
    refine nl ?_
    refine then_n ?_
    refine sq ?_
    refine sq ?_
    refine rg ?_
    replace H := sh_cells0 (cs' := gtCells D m c 512 g true rc) H rfl
    refine la (vs := gtCells D m c 512 g true rc) H rfl ag24_5 rfl rfl rfl ?_
    refine mv (v := .int .i64 _) rfl rfl ?_
    refine cvi rfl rfl Tryd.underlying28 (by first | exact w_u64 (by omega) | exact w_u64 (rng_u64 _) | exact m_u64 _) rfl ?_
    refine cl ca8 (c_good _ D m c g true rc ps (hq.keep H.fr) (hU.keep H.fr) n hn h5.2.2) rfl ?_
    rintro _ w3 ⟨gg, rfl, F, hgg⟩
    replace H := H.keep F; clear F
    refine unot rfl rfl ?_
    refine nl ?_
    refine then_n ?_
    first | refine cd rfl (fun hc2 => ?_) (fun hc2 => ?_) | refine cn rfl (fun hc2 => ?_) (fun hc2 => ?_)   -- test 2
    · refine sq ?_
      refine rg ?_
      refine cl ca9 (c_awake _) rfl ?_
      rintro _ w4 ⟨rfl, F⟩
      replace H := H.keep F; clear F
      refine asg (v := .bool _) rfl rfl ?_
      refine nl ?_
      refine then_n ?_
      refine rt ?_
      refine then_r ?_
      refine fin_r ?_
      exact ⟨rfl, H.fr⟩
    · obtain ⟨hgu, hm, hgl⟩ := hgg (by simpa using hc2)
      have hfs : ∀ p ∈ ps, p.fits := fun p hp => (hgl.1 p hp).fits
      have hn6 : n ≤ 1000000 := hn.2
      have hoks := hq.ok
      have hgo := ok_laid hgl hoks hn6
      refine sk ?_
      refine then_n ?_
      refine sq ?_
      refine rg ?_
      refine mv (v := .int .i64 _) rfl rfl ?_
      refine cl ca10 (c_partDisk _ n 512 0 (by omega) (by omega) (by omega)) rfl ?_
      rintro _ w5 ⟨bd, ds, rfl, hdl, hb1, ho1, F⟩
      replace H := H.new F hb1 ho1; clear F ho1
      have S := stands_enc (g := g) hn hdl hfs
      refine asg (v := .slice _ _ _) rfl rfl ?_
      refine nl ?_
      refine then_n ?_
      refine sq ?_
      refine rg ?_
      refine mv (v := .slice _ _ _) rfl rfl ?_
      refine la (vs := gtCells D m c 512 g true rc) H rfl ag24_5 rfl rfl rfl ?_
      refine cl ca11 (c_gptEncode _ bd n (n * 512) _ ds D m c g rc ps (H.look (b := bd)) (by omega) (by omega) hdl (hq.keep H.fr) (by omega) (fun p hp => ⟨h5.2.2 p hp, hfs p hp⟩)) rfl ?_
      rintro _ w6 ⟨rfl, hlen, F, hnew⟩
      replace H := H.put (b := bd) F hnew; clear F hnew
      generalize encB ds n g ps = DD at S H hlen
      have hSl := S.len
      obtain ⟨R1, R2, R3, R4, R5, R6⟩ := S.read hn
      refine nl ?_
      refine then_n ?_
      refine sq ?_
      refine rg ?_
      refine mv (v := .slice _ _ _) rfl rfl ?_
      refine mv (v := .int .i64 _) rfl rfl ?_
      refine cvi rfl rfl Tryd.underlying28 (by first | exact w_u64 (by omega) | exact w_u64 (rng_u64 _) | exact m_u64 _) rfl ?_
      refine mul (c := (((n - 1 : Nat) : Int) + 1) * 512) rfl rfl (by rw [w_u64 (by omega)]; omega) rfl ?_
      refine cl ca18 (c_implVerify _ (some ⟨bd, 0, none⟩) (n * 512) (n * 512) DD (RB.allm (b := bd) H (by rw [hSl])) (by omega) (n - 1) (n - 33) (by omega) (by omega) R2 R3 R4 R5 R1 (by rw [S.o1]; omega) S.i1 (by rw [S.x1]; omega) S.g2 S.i2) rfl ?_
      rintro _ w7 ⟨rfl, F⟩
      replace H := H.keep F; clear F
      refine mv (v := .tuple _) rfl rfl ?_
      refine xt rfl rfl rfl ?_
      refine xt rfl rfl rfl ?_
      refine asg (v := .bool _) rfl rfl ?_
      refine asg (v := .bool _) rfl rfl ?_
      refine nl ?_
      refine then_n ?_
      refine sq ?_
      refine rg ?_
      refine mv (v := .bool _) rfl rfl ?_
      refine mv (v := .bool _) rfl rfl ?_
      first | refine spL (t := 38) (b := true) rfl ?_ | refine spT (t := 38) rfl rfl ?_   -- guard 1
      refine gy rfl ?_
      refine mv (v := .bool _) rfl rfl ?_
      refine pkT (v := .bool _) rfl rfl rfl ?_
      refine mv (v := .bool _) rfl rfl ?_
      first | refine spL (t := 41) (b := true) rfl ?_ | refine spT (t := 41) rfl rfl ?_   -- guard 2
      refine gy rfl ?_
      refine cl ca9 (c_awake _) rfl ?_
      rintro _ w8 ⟨rfl, F⟩
      replace H := H.keep F; clear F
      refine pkT (v := .bool _) rfl rfl rfl ?_
      refine asg (v := .bool _) rfl rfl ?_
      refine nl ?_
      refine then_n ?_
      refine rt ?_
      refine fin_r ?_
      exact ⟨rfl, H.fr⟩

end Go.Proofs.YthcaejaaalkglaaDoor.X
