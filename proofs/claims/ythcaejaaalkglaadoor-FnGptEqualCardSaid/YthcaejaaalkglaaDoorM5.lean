/- Laws and walks on the road to the statement: P14, Dec16, P15, P16, GptArr, P17, P18, P19, P20, P21, P22, GptTold, P23. -/
import Derived.Test.YthcaejaaalkglaaDoorM4
/- Walks of functions, printed by a program of this claim. -/
namespace Go.Proofs.YthcaejaaalkglaaDoor.X
set_option linter.unusedVariables false
set_option linter.unusedSimpArgs false
open Go Go.RowKit
namespace PF
theorem ca55 : callable Tryd.prog 55 = true := by kernel_rfl
theorem ca56 : callable Tryd.prog 56 = true := by kernel_rfl
theorem fo99_1 : fieldOff Tryd.prog 99 1 = some 1 := by kernel_rfl
theorem fo99_11 : fieldOff Tryd.prog 99 11 = some 11 := by kernel_rfl
theorem fo99_14 : fieldOff Tryd.prog 99 14 = some 14 := by kernel_rfl
theorem fo99_2 : fieldOff Tryd.prog 99 2 = some 2 := by kernel_rfl
theorem fo99_4 : fieldOff Tryd.prog 99 4 = some 4 := by kernel_rfl
theorem fo99_6 : fieldOff Tryd.prog 99 6 = some 6 := by kernel_rfl
theorem fo99_7 : fieldOff Tryd.prog 99 7 = some 7 := by kernel_rfl
theorem fo99_8 : fieldOff Tryd.prog 99 8 = some 8 := by kernel_rfl
end PF
open PF
set_option maxRecDepth 100000 in
set_option maxHeartbeats 1000000 in
theorem c_tabFrom (w : World) (q n c : Nat) (T : TypeId) (bs : List UInt8) (hb : w.heap[q]? = some (.cells (Bs bs).toArray T (0, 0))) (hn : 1024 ≤ n) (hc : n ≤ c) (ho : n ≤ bs.length) (hbl : bs.length ≤ 1000000000) : Calls Tryd.prog 57 #[.slice (some ⟨q, 0, none⟩) n c, .int .i64 512, .int .i64 512] w (Ret fun v w' => Fr [q] w w' ∧ w'.heap[q]? = some (.cells (Bs (pAt bs 528 [0, 0, 0, 0])).toArray T (0, 0)) ∧ ∃ A e, v = .tuple #[.pointer A, e] ∧ Ifc e ∧ isIf e = !(hdrGood bs 512) ∧ (hdrGood bs 512 = true → ∃ p, A = some ⟨p, 0, none⟩ ∧ w.heap.size ≤ p ∧ w'.heap[p]? = some (.cells (tbC none 0 0 512 512 (gT (pcs bs 568 16)) (protB (pcs bs 0 512) (fld bs 544 8 % 4294967296)) false (fld bs 592 4) (fld bs 596 4) (fld bs 584 8) (fld bs 600 4) (fld bs 536 8) (fld bs 544 8) (fld bs 552 8) (fld bs 560 8) true).toArray 99 (0, 0)))) := by
 refine enter (fun ρ => .tuple #[ρ 6, ρ 7]) Tryd.func57 rfl rfl rfl (res2 rfl) ?_
 have H := SH.rw1 hb
 refine sq ?_
 refine rg ?_
 refine asg (v := .pointer _) rfl rfl ?_
 refine asg (v := .nilIface) rfl rfl ?_
 refine nl ?_
 refine then_n ?_
 refine sq ?_
 refine sq ?_
 refine rg ?_
 refine mv (v := .slice _ _ _) rfl rfl ?_
 refine lnS rfl Tryd.underlying30 rfl ?_
 refine mv (v := .int .i64 _) rfl rfl ?_
 refine mul rfl rfl (by first | exact w_i64 (by omega) | exact w_i64 (rng_i64 _) | rfl) rfl ?_
 refine lss rfl rfl rfl ?_
 refine nl ?_
 refine then_n ?_
 refine cF rfl (by omega) ?_
 refine sk ?_
 refine then_n ?_
 refine sq ?_
 refine rg ?_
 refine mv (v := .slice _ _ _) rfl rfl ?_
 refine mv (v := .int .i64 _) rfl rfl ?_
 refine sllN (512) (n - 512) (c - 512) rfl rfl Tryd.underlying30 sz5_1 (by omega) (by omega) rfl ?_
 refine asg (v := .slice _ _ _) rfl rfl ?_
 refine nl ?_
 refine then_n ?_
 refine sq ?_
 refine rg ?_
 refine mv (v := .slice _ _ _) rfl rfl ?_
 refine cl ca55 (c_readHdr _ q 512 (n - 512) (c - 512) _ bs (H.look (b := q)) (by omega) (by omega) (by omega) (by omega)) rfl ?_
 rintro _ w1 ⟨F, hnew, hres⟩
 obtain ⟨A9, e9, rfl, hie, hif, hok⟩ := two_res hres
 obtain ⟨H9, hlt⟩ := H.put2 F hnew
 clear H hres F hnew; have H := H9; clear H9
 refine mv (v := .tuple _) rfl rfl ?_
 refine xt rfl rfl rfl ?_
 refine xt rfl rfl rfl ?_
 refine asg (v := .pointer _) rfl rfl ?_
 refine asg rfl rfl ?_
 refine nl ?_
 refine then_n ?_
 refine sq ?_
 refine sq ?_
 refine rg ?_
 refine mv rfl rfl ?_
 refine neqIG rfl Tryd.underlying74 (by assumption) rfl ?_
 refine nl ?_
 refine then_n ?_
 refine cn rfl (fun hc2 => ?_) (fun hc2 => ?_)
 ·have hgd : hdrGood bs 512 = false := by have h9 := hif.symm.trans hc2; simpa using h9
  refine sq ?_
  refine rg ?_
  refine mv rfl rfl ?_
  refine asg (v := .pointer _) rfl rfl ?_
  refine asg rfl rfl ?_
  refine nl ?_
  refine then_n ?_
  refine rt ?_
  refine then_r ?_
  refine fin_r ?_
  exact ⟨H.fr, H.look, _, _, rfl, hie, hif, fun h => by rw [hgd] at h; cases h⟩
 ·have hgd : hdrGood bs 512 = true := by have h9 := hif.symm.trans hc2; simpa using h9
  obtain ⟨p, rfl, hp1, hp2⟩ := hok hgd
  replace H := H.add hlt hp1 hp2
  refine sk ?_
  refine then_n ?_
  refine sq ?_
  refine dr (by kernel_rfl) ?_
  have H := H.drew
  refine hold (fun _ => True) [] ?_
  refine tk (i := 0) rfl (by kernel_rfl) rfl trivial (fun _ _ => r_mv (v := .pointer _) rfl) ?_
  refine tk (i := 1) rfl (by kernel_rfl) rfl trivial (fun _ _ => r_mv (v := .slice _ _ _) rfl) ?_
  refine tk (i := 2) rfl (by kernel_rfl) rfl trivial (fun _ _ => r_mv (v := .int .i64 _) rfl) ?_
  refine tk (i := 3) rfl (by kernel_rfl) rfl trivial (fun _ _ => r_slhN (512) rfl rfl Tryd.underlying30 sz5_1 (by omega) (by omega)) ?_
  refine tk (i := 4) rfl (by kernel_rfl) rfl trivial (fun _ _ => r_mv (v := .pointer _) rfl) ?_
  refine tk (i := 5) rfl (by kernel_rfl) rfl trivial (fun _ _ => r_nc rfl) ?_
  refine tk (i := 6) rfl (by kernel_rfl) rfl trivial (fun _ _ => r_fa rfl fo99_11) ?_
  refine unfree ?_
  refine holdH H [12] ?_
  refine tk (i := 7) rfl (by kernel_rfl) rfl H (fun w' H => r_ld H rfl sc28 rfl) ?_
  refine tk (i := 8) rfl (by kernel_rfl) rfl H (fun w' H => r_cvi (c := fld bs 544 8 % 4294967296) rfl rfl Tryd.underlying53 (m_u32 _)) ?_
  refine fk (i := 9) (by kernel_rfl) rfl rfl rfl ?_
  refine cl ca56 (c_readProt _ q 0 c (pcs bs 0 512) (fld bs 544 8 % 4294967296) (by have e := RB.of (b := q) (o := 0) (n := 512) H (by rw [zero_len (o := 512) (by omega)]; omega); rw [zero_lt (o := 512) (by omega) (by omega)] at e; exact e) (by omega)) rfl ?_
  rintro _ w2 ⟨rfl, F⟩
  replace H := H.keep F; clear F
  refine nl ?_
  refine then_n ?_
  refine ⟨H, ?_⟩
  refine fk (i := 10) (by kernel_rfl) rfl rfl rfl ?_
  refine nc rfl rfl ?_
  refine nl ?_
  refine then_n ?_
  refine ⟨H, ?_⟩
  refine tk (i := 11) rfl (by kernel_rfl) rfl H (fun w' H => r_fa rfl fo99_4) ?_
  refine fb (i := 12) (by kernel_rfl) rfl rfl rfl ?_
  refine st (v := .bool _) H rfl rfl sc4 rfl (by first | decide | (simp only [List.length_set, List.length_cons, List.length_nil, List.length_replicate, List.length_append, Bs_length]; omega) | omega) (by omega) ?_
  clear H; intro w3 H _
  refine nl ?_
  refine then_n ?_
  refine dn (by kernel_rfl) ?_
  refine then_n ?_
  refine sq ?_
  refine rg ?_
  refine mv (v := .pointer _) rfl rfl ?_
  refine mv (v := .int .i64 _) rfl rfl ?_
  refine nc rfl rfl ?_
  refine fa rfl fo99_1 rfl ?_
  refine st (v := .int .i64 _) H rfl rfl sc3 rfl (by first | decide | (simp only [List.length_set, List.length_cons, List.length_nil, List.length_replicate, List.length_append, Bs_length]; omega) | omega) (by omega) ?_
  clear H; intro w4 H _
  refine nl ?_
  refine then_n ?_
  refine sq ?_
  refine rg ?_
  refine mv (v := .pointer _) rfl rfl ?_
  refine mv (v := .int .i64 _) rfl rfl ?_
  refine nc rfl rfl ?_
  refine fa rfl fo99_2 rfl ?_
  refine st (v := .int .i64 _) H rfl rfl sc3 rfl (by first | decide | (simp only [List.length_set, List.length_cons, List.length_nil, List.length_replicate, List.length_append, Bs_length]; omega) | omega) (by omega) ?_
  clear H; intro w5 H _
  refine nl ?_
  refine then_n ?_
  refine sq ?_
  refine rg ?_
  refine mv (v := .pointer _) rfl rfl ?_
  refine nc rfl rfl ?_
  refine fa rfl fo99_14 rfl ?_
  refine st (v := .bool _) H rfl rfl sc4 rfl (by first | decide | (simp only [List.length_set, List.length_cons, List.length_nil, List.length_replicate, List.length_append, Bs_length]; omega) | omega) (by omega) ?_
  clear H; intro w6 H _
  refine nl ?_
  refine then_n ?_
  refine sq ?_
  refine rg ?_
  refine mv (v := .pointer _) rfl rfl ?_
  refine asg (v := .pointer _) rfl rfl ?_
  refine asg (v := .nilIface) rfl rfl ?_
  refine nl ?_
  refine then_n ?_
  refine rt ?_
  refine fin_r ?_
  replace H := sh_cells0 (cs' := tbC none 0 0 512 512 (gT (pcs bs 568 16)) (protB (pcs bs 0 512) (fld bs 544 8 % 4294967296)) false (fld bs 592 4) (fld bs 596 4) (fld bs 584 8) (fld bs 600 4) (fld bs 536 8) (fld bs 544 8) (fld bs 552 8) (fld bs 560 8) true) H rfl
  exact ⟨H.fr, H.look, _, _, rfl, .inl rfl, by rw [hgd]; rfl, fun _ => ⟨_, rfl, H.ge1 rfl (y := ⟨q, _, true⟩) (by repeat (first | exact .head _ | apply List.Mem.tail)) rfl, H.look⟩⟩
set_option maxRecDepth 100000 in
set_option maxHeartbeats 1000000 in
theorem c_calcLoc (w : World) (p : Nat) (f s k e : Int) (h1 : w.cell? ⟨p, 1, none⟩ = some (.int .i64 s)) (h6 : w.cell? ⟨p, 6, none⟩ = some (.int .i64 k)) (h7 : w.cell? ⟨p, 7, none⟩ = some (.int .u32 e)) (h8 : w.cell? ⟨p, 8, none⟩ = some (.int .u64 f)) (hf : 0 ≤ f ∧ f ≤ 1000000000) (he : 0 ≤ e ∧ e ≤ 4294967295) (fs ke : Int) (hfs : f * s = fs) (hke : k * e = ke) (hfs2 : 0 ≤ fs ∧ fs ≤ 1000000000000) (hke2 : 0 ≤ ke ∧ ke ≤ 1000000000000) : Calls Tryd.prog 73 #[.pointer (some ⟨p, 0, none⟩)] w (Ret fun v w' => v = .tuple #[.int .i64 fs, .int .i64 ke] ∧ Fr [] w w') := by
 refine enter (fun ρ => .tuple #[ρ 2, ρ 3]) Tryd.func73 rfl rfl rfl (res2 rfl) ?_
 have H := SH.nil w
 refine sq ?_
 refine rg ?_
 refine asg (v := .int .i64 _) rfl rfl ?_
 refine asg (v := .int .i64 _) rfl rfl ?_
 refine nl ?_
 refine then_n ?_
 refine sq ?_
 refine dr (by kernel_rfl) ?_
 have H := H.drew
 refine hold (fun _ => True) [] ?_
 refine tk (i := 0) rfl (by kernel_rfl) rfl trivial (fun _ _ => r_mv (v := .pointer _) rfl) ?_
 refine tk (i := 1) rfl (by kernel_rfl) rfl trivial (fun _ _ => r_nc rfl) ?_
 refine tk (i := 2) rfl (by kernel_rfl) rfl trivial (fun _ _ => r_fa rfl fo99_8) ?_
 refine tk (i := 5) rfl (by kernel_rfl) rfl trivial (fun _ _ => r_mv (v := .pointer _) rfl) ?_
 refine tk (i := 6) rfl (by kernel_rfl) rfl trivial (fun _ _ => r_nc rfl) ?_
 refine tk (i := 7) rfl (by kernel_rfl) rfl trivial (fun _ _ => r_fa rfl fo99_1) ?_
 refine unfree ?_
 refine holdH H [] ?_
 refine tk (i := 3) rfl (by kernel_rfl) rfl H (fun w' H => r_lc rfl (by first | assumption | exact H.fr.cell (by assumption) (by simp)) sc28) ?_
 refine tk (i := 4) rfl (by kernel_rfl) rfl H (fun w' H => r_cvi rfl rfl Tryd.underlying3 (by first | exact w_i64 (by omega) | exact w_i64 (rng_i64 _) | rfl)) ?_
 refine tk (i := 8) rfl (by kernel_rfl) rfl H (fun w' H => r_lc rfl (by first | assumption | exact H.fr.cell (by assumption) (by simp)) sc3) ?_
 refine tk (i := 9) rfl (by kernel_rfl) rfl H (fun w' H => r_mul rfl rfl (by first | exact w_i64 (by omega) | exact w_i64 (rng_i64 _) | rfl)) ?_
 refine tk (i := 10) rfl (by kernel_rfl) rfl H (fun w' H => r_asg (v := .int .i64 _) rfl) ?_
 refine da (by kernel_rfl) ?_
 refine then_n ?_
 refine sq ?_
 refine dr (by kernel_rfl) ?_
 have H := H.drew
 refine hold (fun _ => True) [] ?_
 refine tk (i := 0) rfl (by kernel_rfl) rfl trivial (fun _ _ => r_mv (v := .pointer _) rfl) ?_
 refine tk (i := 1) rfl (by kernel_rfl) rfl trivial (fun _ _ => r_nc rfl) ?_
 refine tk (i := 2) rfl (by kernel_rfl) rfl trivial (fun _ _ => r_fa rfl fo99_6) ?_
 refine tk (i := 4) rfl (by kernel_rfl) rfl trivial (fun _ _ => r_mv (v := .pointer _) rfl) ?_
 refine tk (i := 5) rfl (by kernel_rfl) rfl trivial (fun _ _ => r_nc rfl) ?_
 refine tk (i := 6) rfl (by kernel_rfl) rfl trivial (fun _ _ => r_fa rfl fo99_7) ?_
 refine unfree ?_
 refine holdH H [] ?_
 refine tk (i := 3) rfl (by kernel_rfl) rfl H (fun w' H => r_lc rfl (by first | assumption | exact H.fr.cell (by assumption) (by simp)) sc3) ?_
 refine tk (i := 7) rfl (by kernel_rfl) rfl H (fun w' H => r_lc rfl (by first | assumption | exact H.fr.cell (by assumption) (by simp)) sc53) ?_
 refine tk (i := 8) rfl (by kernel_rfl) rfl H (fun w' H => r_cvi rfl rfl Tryd.underlying3 (by first | exact w_i64 (by omega) | exact w_i64 (rng_i64 _) | rfl)) ?_
 refine tk (i := 9) rfl (by kernel_rfl) rfl H (fun w' H => r_mul rfl rfl (by first | exact w_i64 (by omega) | exact w_i64 (rng_i64 _) | rfl)) ?_
 refine tk (i := 10) rfl (by kernel_rfl) rfl H (fun w' H => r_asg (v := .int .i64 _) rfl) ?_
 refine da (by kernel_rfl) ?_
 refine then_n ?_
 refine rt ?_
 refine fin_r ?_
 subst hfs hke; exact ⟨rfl, H.fr⟩
end Go.Proofs.YthcaejaaalkglaaDoor.X
/- Units of sixteen bits as runes, and runes as bytes. -/
namespace Go.Proofs.YthcaejaaalkglaaDoor.X
set_option linter.unusedVariables false
open Go Go.RowKit
def dec16 : List Int → List Int
 | [] => []
 | u :: r => if u < 55296 ∨ 57344 ≤ u then u :: dec16 r else
  match r with
  | [] => [65533]
  | v :: r' => if u < 56320 ∧ 56320 ≤ v ∧ v < 57344 then ((u - 55296) * 1024 + (v - 56320) + 65536) :: dec16 r' else 65533 :: dec16 (v :: r')
theorem drop_at {us : List Int} {i : Nat} {u : Int} (h : us[i]? = some u) : us.drop i = u :: us.drop (i + 1) := by
 obtain ⟨hi, e⟩ := List.getElem?_eq_some_iff.1 h
 rw [List.drop_eq_getElem_cons hi, e]
theorem dec_A {us : List Int} {i : Nat} {u : Int} (h : us[i]? = some u) (hu : u < 55296 ∨ 57344 ≤ u) : dec16 (us.drop i) = u :: dec16 (us.drop (i + 1)) := by
 rw [drop_at h, dec16.eq_def]; simp only [if_pos hu]
theorem dec_B {us : List Int} {i : Nat} {u v : Int} (h : us[i]? = some u) (h2 : us[i + 1]? = some v) (hu : ¬ (u < 55296 ∨ 57344 ≤ u)) (hv : u < 56320 ∧ 56320 ≤ v ∧ v < 57344) : dec16 (us.drop i) = ((u - 55296) * 1024 + (v - 56320) + 65536) :: dec16 (us.drop (i + 2)) := by
 rw [drop_at h, drop_at h2, dec16.eq_def]; simp only [if_neg hu, if_pos hv]
theorem dec_C {us : List Int} {i : Nat} {u : Int} (h : us[i]? = some u) (hu : ¬ (u < 55296 ∨ 57344 ≤ u)) (hv : ∀ v, us[i + 1]? = some v → ¬ (u < 56320 ∧ 56320 ≤ v ∧ v < 57344)) : dec16 (us.drop i) = 65533 :: dec16 (us.drop (i + 1)) := by
 rw [drop_at h, dec16.eq_def]; simp only [if_neg hu]
 cases hd : us.drop (i + 1) with
 | nil => simp [dec16]
 | cons v r =>
  have h2 : us[i + 1]? = some v := by
   have := congrArg List.head? hd
   simpa using this
  simp only [if_neg (hv v h2)]
def encL (ns : List Int) : List UInt8 := ns.flatMap fun n => (Utf8.encode n).data.toList
theorem foldl_enc : ∀ (ns : List Int) (r : ByteArray), (ns.foldl (fun r n => r ++ Utf8.encode n) r).data.toList = r.data.toList ++ encL ns
 | [], r => by simp [encL]
 | n :: ns, r => by
  rw [List.foldl_cons, foldl_enc ns]
  simp [encL, ByteArray.data_append]
theorem rBytes_eq (ns : List Int) : rBytes ns ns.length = encL ns := by
 unfold rBytes runesBytes
 rw [List.take_length, foldl_enc]
 rfl
theorem or1024 {x y : Int} (hx : 0 ≤ x ∧ x < 1024) (hy : 0 ≤ y ∧ y < 1024) : bits .or .i32 (x * 1024) y = x * 1024 + y := by
 obtain ⟨a, rfl⟩ := Int.eq_ofNat_of_zero_le hx.1
 obtain ⟨b, rfl⟩ := Int.eq_ofNat_of_zero_le hy.1
 have e : bits .or .i32 ((a : Int) * 1024) (b : Int) = IntKind.i32.wrap ((BitVec.ofInt 32 ((a : Int) * 1024) ||| BitVec.ofInt 32 (b : Int)).toNat : Int) := rfl
 have h1 : (BitVec.ofInt 32 ((a : Int) * 1024)).toNat = a * 2 ^ 10 := by rw [BitVec.toNat_ofInt]; omega
 have h2 : (BitVec.ofInt 32 (b : Int)).toNat = b := by rw [BitVec.toNat_ofInt]; omega
 rw [e, BitVec.toNat_or, h1, h2, Nat.or_comm, or_shift (by omega), w_i32 (by omega)]
 omega
def unE (e : List UInt8) : List Int := (List.range 36).map fun j => fld e (56 + 2 * j) 2
def nmU (e : List UInt8) : List Int := (unE e).takeWhile fun u => decide (u ≠ 0)
def nmB (e : List UInt8) : List UInt8 := encL (dec16 (nmU e))
theorem unE_len (e : List UInt8) : (unE e).length = 36 := by simp [unE]
theorem unE_get {e : List UInt8} {j : Nat} (h : j < 36) : (unE e)[j]? = some (fld e (56 + 2 * j) 2) := by
 unfold unE; rw [List.getElem?_map, List.getElem?_range h]; rfl
theorem tw_self : ∀ {us : List Int}, (∀ u ∈ us, u ≠ 0) → us.takeWhile (fun u => decide (u ≠ 0)) = us
 | [], _ => rfl
 | u :: r, hz => by rw [List.takeWhile_cons, if_pos (decide_eq_true (hz u (by simp))), tw_self (us := r) fun v hv => hz v (by simp [hv])]
theorem tw_all {us : List Int} {j : Nat} (hz : ∀ u ∈ us.take j, u ≠ 0) (h : us.length ≤ j) : us.takeWhile (fun u => decide (u ≠ 0)) = us.take j := by
 rw [List.take_of_length_le h] at hz ⊢
 exact tw_self hz
theorem tw_at : ∀ {us : List Int} {j : Nat}, (∀ u ∈ us.take j, u ≠ 0) → us[j]? = some 0 → us.takeWhile (fun u => decide (u ≠ 0)) = us.take j
 | [], j, hz, h => by simp at h
 | u :: r, 0, hz, h => by simp at h; subst h; simp
 | u :: r, j + 1, hz, h => by
  have h1 : u ≠ 0 := hz u (by simp)
  rw [List.takeWhile_cons, if_pos (decide_eq_true h1), List.take_succ_cons, tw_at (us := r) (j := j) (fun v hv => hz v (by simp [hv])) (by simpa using h)]
theorem nmU_full {e : List UInt8} {j : Nat} (hz : ∀ u ∈ (unE e).take j, u ≠ 0) (h : 36 ≤ j) : nmU e = (unE e).take j := tw_all hz (by rw [unE_len]; exact h)
theorem nmU_at {e : List UInt8} {j : Nat} (hz : ∀ u ∈ (unE e).take j, u ≠ 0) (hj : j < 36) (h : fld e (56 + 2 * j) 2 = 0) : nmU e = (unE e).take j := tw_at hz (by rw [unE_get hj, h])
theorem nz_next {e : List UInt8} {j : Nat} (hz : ∀ u ∈ (unE e).take j, u ≠ 0) (hj : j < 36) (h : fld e (56 + 2 * j) 2 ≠ 0) : ∀ u ∈ (unE e).take (j + 1), u ≠ 0 := by
 rw [take_succ_get (unE_get hj)]
 intro u hu
 rcases List.mem_append.1 hu with hu | hu
 ·exact hz u hu
 ·simp at hu; subst hu; exact h
theorem unE_succ {e : List UInt8} {j : Nat} (hj : j < 36) : (unE e).take (j + 1) = (unE e).take j ++ [fld e (56 + 2 * j) 2] := take_succ_get (unE_get hj)
theorem take_unE_len {e : List UInt8} {j : Nat} (h : j ≤ 36) : ((unE e).take j).length = j := by rw [List.length_take, unE_len]; omega
theorem nmU_len (e : List UInt8) : (nmU e).length ≤ 36 := by
 have := (List.takeWhile_prefix (l := unE e) (fun u => decide (u ≠ 0))).length_le
 rw [unE_len] at this
 exact this
theorem fld_rng2 {ds : List UInt8} {o : Nat} : 0 ≤ fld ds o 2 ∧ fld ds o 2 ≤ 65535 := by
 have := leV_rng (pcs ds o 2)
 have hl : (pcs ds o 2).length ≤ 2 := by simp [pcs]; omega
 have h2 : ((256 ^ (pcs ds o 2).length : Nat) : Int) ≤ ((256 ^ 2 : Nat) : Int) := Int.ofNat_le.2 (Nat.pow_le_pow_right (by decide) hl)
 rw [Int.natCast_pow, Int.natCast_pow, show ((256 : Nat) : Int) = 256 from rfl, show (256 : Int) ^ 2 = 65536 by decide] at h2
 unfold fld; omega
theorem nmU_rng {e : List UInt8} : ∀ u ∈ nmU e, 0 ≤ u ∧ u ≤ 65535 := by
 intro u hu
 have h1 := (List.takeWhile_prefix (l := unE e) (fun u => decide (u ≠ 0))).subset hu
 unfold unE at h1
 obtain ⟨j, _, rfl⟩ := List.mem_map.1 h1
 exact fld_rng2
def ptC (k st en sz : Int) (ty nm gu : List UInt8) (att : Int) : List Value := [.int .i64 k, .int .u64 st, .int .u64 en, .int .u64 sz, .string (str ty), .string (str nm), .string (str gu), .int .u64 att, .int .i64 512, .int .i64 512]
def entC (k sz : Int) (e : List UInt8) : List Value := ptC k (fld e 32 8) (fld e 40 8) sz (gT (pcs e 0 16)) (nmB e) (gT (pcs e 16 16)) (fld e 48 8)
def freeE (e : List UInt8) : Bool := decide (pcs e 0 16 = List.replicate 16 0)
def R16 (w : World) (A : Option Addr) (n : Nat) (us : List Int) : Prop := us.length = n ∧ ∀ i u, us[i]? = some u → ∃ ad, A = some ad ∧ w.cell? (ad.add i) = some (.int .u16 u)
theorem R16.keep {w w' : World} {A : Option Addr} {n : Nat} {us : List Int} (h : R16 w A n us) (f : Fr [] w w') : R16 w' A n us :=
 ⟨h.1, fun i u hu => by obtain ⟨ad, e, hc⟩ := h.2 i u hu; exact ⟨ad, e, f.cell hc (by simp)⟩⟩
theorem OR.r16 {e : TypeId} {w0 : World} {S : List Nat} {w : World} {L : List Ent} {A : Option Addr} {n cap : Nat} {us : List Int} (O : OR e 1 w0 S w L A n cap (us.map (Value.int .u16))) : R16 w A n us := by
 have hl : us.length = n := by have := O.len; simpa using this
 refine ⟨hl, fun i u hu => ?_⟩
 have hi := (List.getElem?_eq_some_iff.1 hu).1
 obtain ⟨ad, rfl⟩ := O.some_of (by omega)
 exact ⟨ad, rfl, O.one (by rw [List.getElem?_map, hu]; rfl)⟩
theorem R16.at {w : World} {ad : Addr} {n : Nat} {us : List Int} (h : R16 w (some ad) n us) {i : Nat} {u : Int} (hu : us[i]? = some u) : w.cell? (ad.add i) = some (.int .u16 u) := by
 obtain ⟨ad', e, hc⟩ := h.2 i u hu
 cases e; exact hc
theorem add_block (ad : Addr) (i : Nat) : (ad.add i).block = ad.block := by unfold Addr.add; split <;> rfl
theorem cell_lt {w : World} {ad : Addr} {i : Nat} {v : Value} (h : w.cell? (ad.add i) = some v) : ad.block < w.heap.size := by
 rcases Nat.lt_or_ge ad.block w.heap.size with h1 | h1
 ·exact h1
 ·exfalso
  have e : (ad.add i).block = ad.block := by unfold Addr.add; split <;> rfl
  unfold World.cell? at h
  rw [e, Array.getElem?_eq_none h1] at h
  simp at h
theorem OR.under {e : TypeId} {sz : Nat} {w0 w w' : World} {L : List Ent} {b : Nat} {A : Option Addr} {n cap : Nat} {xs : List Value} (F : Fr [] w0 w) (hb : w0.heap.size ≤ b) (O : OR e sz w [b] w' L A n cap xs) : OR e sz w0 [] w' L A n cap xs := by
 have hfr : ∀ {L : List Ent}, SH w [b] w' L → SH w0 [] w' L := fun {L} H => by
  refine ⟨F.then H.fr (by simpa using hb), H.get, H.ap, fun x hx hm => ?_⟩
  rcases H.mu x hx hm with h | h
  ·simp at h; exact .inr (by omega)
  ·exact .inr (Nat.le_trans F.size h)
 refine ⟨O.len, hfr O.sh, ?_⟩
 rcases O.own with h | ⟨b', cur, h1, h2, h3, h4, h5, h6⟩
 ·exact .inl h
 ·exact .inr ⟨b', cur, h1, h2, h3, h4, h5, hfr h6⟩
section steps
variable {P : Program} {n : Nat} {ops : Array Oper} {Q : Post} {rest : List Oper} {ρ : Env} {w : World} {ty : TypeId} {pos : String} {af : Array Edge} {d : Nat}
theorem cvRO {w0 : World} {S : List Nat} {L : List Ent} {s t e : TypeId} {x : Operand} {A : Option Addr} {l c cap : Nat} {ns : List Int} (O : OR e 1 w0 S w L A l cap (ns.map (Value.int .i32))) (hx : ev ρ x = .slice A l c) (hs : P.underlying s = some (.slice e)) (he : P.underlying e = some (.int .i32)) (ht : P.underlying t = some .string) (hn : Nat.blt d n = true)
  (kk : wl P n ops Q rest (upd ρ d (.string (str (encL ns)))) w) : wl P n ops Q (⟨some d, .convert s t x, ty, pos, af, none⟩ :: rest) ρ w := by
 have hlen : ns.length = l := by have := O.len; simpa using this
 have hc := run_convert_runes_string (P := P) w s t e A l c hs he ht
 cases A with
 | none =>
  have h0 : l = 0 := by
   rcases O.own with ⟨_, h, _⟩ | ⟨b, cur, h, _⟩
   ·exact h
   ·cases h
  have hns : ns = [] := List.eq_nil_of_length_eq_zero (by omega)
  subst hns
  refine val rfl rfl hn ?_ kk
  subst h0
  simp [execOp, hx, hc, Conv.runesToString, encL]
  rfl
 | some ad =>
  have hload : (loadCells ad l).run P w = .ok (ns.map (Value.int .i32)).toArray w := by
   have := run_loadCells_list (P := P) w ad (ns.map (Value.int .i32)) (fun j v hj => O.one hj)
   rw [List.length_map, hlen] at this
   exact this
  have hr := run_runesToString (P := P) w ad l c ns hload
  refine val rfl rfl hn ?_ kk
  have e1 : str (encL ns) = runesBytes ns := by
   rw [← rBytes_eq, rBytes, List.take_length, str_data]
  rw [e1]
  simp [execOp, hx, hc, hr]
end steps
end Go.Proofs.YthcaejaaalkglaaDoor.X
/- Walks of functions, printed by a program of this claim. -/
namespace Go.Proofs.YthcaejaaalkglaaDoor.X
set_option linter.unusedVariables false
set_option linter.unusedSimpArgs false
open Go Go.RowKit
namespace PF
theorem ca80 : callable Tryd.prog 80 = true := by kernel_rfl
theorem ca81 : callable Tryd.prog 81 = true := by kernel_rfl
theorem mi21 : elemInfo Tryd.prog 21 = some (.int .i32 0, 4) := by kernel_rfl
theorem ri21 : rowInfo Tryd.prog 21 = some ([.int .i32 0], 4) := by kernel_rfl
theorem sz21_1 : sizeB Tryd.prog 21 1 = true := by kernel_rfl
theorem ze21 : zeroL Tryd.prog 21 = some [.int .i32 0] := by kernel_rfl
end PF
open PF
set_option maxRecDepth 100000 in
set_option maxHeartbeats 1000000 in
theorem c_decRune (w : World) (u1 u2 : Int) (hu : 55296 ≤ u1 ∧ u1 < 56320) (hv : 56320 ≤ u2 ∧ u2 < 57344) : Calls Tryd.prog 81 #[.int .i32 u1, .int .i32 u2] w (Ret fun v w' => v = .int .i32 ((u1 - 55296) * 1024 + (u2 - 56320) + 65536) ∧ Fr [] w w') := by
 refine enter (fun ρ => ρ 4) Tryd.func81 rfl rfl rfl (res1 rfl) ?_
 have H := SH.nil w
 refine sq ?_
 refine rg ?_
 refine asg (v := .int .i32 _) rfl rfl ?_
 refine nl ?_
 refine then_n ?_
 refine sq ?_
 refine sq ?_
 refine rg ?_
 refine mv (v := .int .i32 _) rfl rfl ?_
 refine leq rfl rfl rfl ?_
 refine mv (v := .bool _) rfl rfl ?_
 refine spT (t := 7) rfl (by omega) ?_
 refine gy rfl ?_
 refine mv (v := .int .i32 _) rfl rfl ?_
 refine gy rfl ?_
 refine lss rfl rfl rfl ?_
 refine pkT (v := .bool _) rfl rfl rfl ?_
 refine mv (v := .bool _) rfl rfl ?_
 refine spT (t := 11) rfl (by omega) ?_
 refine gy rfl ?_
 refine mv (v := .int .i32 _) rfl rfl ?_
 refine gy rfl ?_
 refine leq rfl rfl rfl ?_
 refine pkT (v := .bool _) rfl rfl rfl ?_
 refine mv (v := .bool _) rfl rfl ?_
 refine spT (t := 15) rfl (by omega) ?_
 refine gy rfl ?_
 refine mv (v := .int .i32 _) rfl rfl ?_
 refine gy rfl ?_
 refine lss rfl rfl rfl ?_
 refine pkT (v := .bool _) rfl rfl rfl ?_
 refine nl ?_
 refine then_n ?_
 refine cT rfl (by omega) ?_
 refine sq ?_
 refine rg ?_
 refine mv (v := .int .i32 _) rfl rfl ?_
 refine sub rfl rfl (by first | exact w_i32 (by omega) | exact w_i32 (rng_i32 _) | rfl) rfl ?_
 refine shlK (s := 10) (p := 1024) rfl rfl (by decide) (by decide) (by first | exact w_i32 (by omega) | exact w_i32 (rng_i32 _) | rfl) rfl ?_
 refine mv (v := .int .i32 _) rfl rfl ?_
 refine sub rfl rfl (by first | exact w_i32 (by omega) | exact w_i32 (rng_i32 _) | rfl) rfl ?_
 refine bor (c := (u1 - 55296) * 1024 + (u2 - 56320)) rfl rfl (or1024 (by omega) (by omega)) rfl ?_
 refine add rfl rfl (by first | exact w_i32 (by omega) | exact w_i32 (rng_i32 _) | rfl) rfl ?_
 refine asg (v := .int .i32 _) rfl rfl ?_
 refine nl ?_
 refine then_n ?_
 refine rt ?_
 refine then_r ?_
 refine fin_r ?_
 exact ⟨rfl, H.fr⟩
set_option maxRecDepth 100000 in
set_option maxHeartbeats 1000000 in
theorem c_decode (w : World) (A : Option Addr) (n c bB cB : Nat) (us : List Int) (hR : R16 w A n us) (hn : n ≤ 1000000) (hne : 0 < n → ∀ ad, A = some ad → ad.block ≠ bB) (hus : ∀ u ∈ us, 0 ≤ u ∧ u ≤ 65535) (hB : w.heap[bB]? = some (.cells (List.replicate cB (.int .i32 0)).toArray 21 (0, 0))) (hcB : cB ≤ 1000000) : Calls Tryd.prog 80 #[.slice A n c, .slice (some ⟨bB, 0, none⟩) 0 cB] w (Ret fun v w' => ∃ D cap, v = .slice D (dec16 us).length cap ∧ OR 21 1 w [bB] w' [] D (dec16 us).length cap ((dec16 us).map (Value.int .i32))) := by
 refine enter (fun ρ => ρ 4) Tryd.func80 rfl rfl rfl (res1 rfl) ?_
 have H := SH.rw1 hB
 have hul := hR.1
 refine sq ?_
 refine rg ?_
 refine asg (v := .slice _ _ _) rfl rfl ?_
 refine nl ?_
 refine then_n ?_
 refine sq ?_
 refine sq ?_
 refine rg ?_
 refine asg (v := .int .i64 _) rfl rfl ?_
 refine nl ?_
 refine then_n ?_
 refine bk ?_
 refine lpM (α := Nat × Option Addr × Nat × List Int) [1, 5, 6, 7, 8, 9, 10, 11, 12, 13, 14, 15, 16, 17, 18, 19, 20, 21, 22, 23, 24, 25, 26, 27, 28, 29, 30, 31, 32, 33, 34, 35, 36, 37, 38, 39, 40, 41, 42, 43, 44, 45, 46, 47, 48, 49, 50, 51, 52, 53, 54, 55, 56, 57, 58, 59, 60, 61, 62, 63, 64, 65, 66, 67, 68, 69] (fun (i, D, cap, rs) => [(1, .slice D rs.length cap), (5, .int .i64 (i : Int))]) (fun (i, D, cap, rs) w' => i ≤ n ∧ rs.length ≤ i ∧ dec16 us = rs ++ dec16 (us.drop i) ∧ OR 21 1 w [bB] w' [] D rs.length cap (rs.map (Value.int .i32))) (fun (i, D, cap, rs) => n - i) (0, some ⟨bB, 0, none⟩, cB, []) ?_ (fCX (fCX (fN _))) ?_
 ·exact ⟨by omega, by simp, rfl, OR.made (n := 0) H (by omega) (by unfold maxLen; omega) (by simp)⟩
 ·rintro ⟨i, D, cap, rs⟩ ρx w1 ⟨hi, hk, hd, O⟩
  have H := O.sh
  refine sq ?_
  refine sq ?_
  refine rg ?_
  refine mv (v := .int .i64 _) rfl rfl ?_
  refine mv (v := .slice _ _ _) rfl rfl ?_
  refine lnS rfl Tryd.underlying80 rfl ?_
  refine lss rfl rfl rfl ?_
  refine nl ?_
  refine then_n ?_
  refine cd rfl (fun hc1 => ?_) (fun hc1 => ?_)
  ·obtain ⟨u, hu⟩ : ∃ u, us[i]? = some u := ⟨_, List.getElem?_eq_getElem (by omega)⟩
   have hur := hus u (List.mem_of_getElem? hu)
   obtain ⟨ad, rfl, hcell⟩ := hR.2 i u hu
   have hnb := hne (by omega) ad rfl
   have hcell := H.fr.cell hcell (by simpa [add_block] using hnb)
   refine sk ?_
   refine then_n ?_
   refine sq ?_
   refine bk ?_
   refine sq ?_
   refine rg ?_
   refine asg (v := .int .i32 _) rfl rfl ?_
   refine nl ?_
   refine then_n ?_
   refine ctM (α := Int × Nat) [5, 6, 7, 14, 15, 16, 17, 18, 19, 20, 21, 22, 23, 24, 25, 26, 27, 28, 29, 30, 31, 32, 33, 34, 35, 36, 37, 38, 39, 40, 41, 42, 43, 44, 45, 46, 47, 48, 49, 50, 51, 52, 53, 54, 55, 56, 57, 58, 59, 60, 61, 62, 63, 64, 65] (fun (r, j) => [(5, .int .i64 (j : Int)), (6, .int .i32 r)]) (fun (r, j) w' => i ≤ j ∧ j + 1 ≤ n ∧ dec16 (us.drop i) = r :: dec16 (us.drop (j + 1)) ∧ (0 ≤ r ∧ r ≤ 1114111) ∧ OR 21 1 w [bB] w' [] D rs.length cap (rs.map (Value.int .i32))) ?_ ?_
   ·refine sq ?_
    refine rg ?_
    refine mv (v := .slice _ _ _) rfl rfl ?_
    refine mv (v := .int .i64 _) rfl rfl ?_
    refine iA rfl rfl Tryd.underlying80 sz25_1 (by omega) rfl ?_
    refine lc rfl (by first | assumption | exact H.fr.cell (by assumption) (by simp)) sc25 rfl ?_
    refine asg (v := .int .u16 _) rfl rfl ?_
    refine nl ?_
    refine then_n ?_
    refine bk ?_
    refine sq ?_
    refine sq ?_
    refine rg ?_
    refine mv (v := .int .u16 _) rfl rfl ?_
    refine lss rfl rfl rfl ?_
    refine asg (v := .bool _) rfl rfl ?_
    refine nl ?_
    refine then_n ?_
    refine cd rfl (fun hc2 => ?_) (fun hc2 => ?_)
    ·refine sk ?_
     refine then_n ?_
     refine cT rfl (by omega) ?_
     refine rg ?_
     refine mv (v := .int .u16 _) rfl rfl ?_
     refine cvi rfl rfl Tryd.underlying21 (by first | exact w_i32 (by omega) | exact w_i32 (rng_i32 _) | rfl) rfl ?_
     refine asg (v := .int .i32 _) rfl rfl ?_
     refine nl ?_
     refine in_n ?_
     refine then_n ?_
     exact ⟨(u, i), ⟨by omega, by omega, dec_A hu (by omega), by omega, O⟩, (fCX (fCX (fN _))), agX⟩
    ·refine rg ?_
     refine mv (v := .int .u16 _) rfl rfl ?_
     refine leq rfl rfl rfl ?_
     refine asg (v := .bool _) rfl rfl ?_
     refine nl ?_
     refine then_n ?_
     refine cd rfl (fun hc4 => ?_) (fun hc4 => ?_)
     ·refine rg ?_
      refine mv (v := .int .u16 _) rfl rfl ?_
      refine cvi rfl rfl Tryd.underlying21 (by first | exact w_i32 (by omega) | exact w_i32 (rng_i32 _) | rfl) rfl ?_
      refine asg (v := .int .i32 _) rfl rfl ?_
      refine nl ?_
      refine in_n ?_
      refine then_n ?_
      exact ⟨(u, i), ⟨by omega, by omega, dec_A hu (by omega), by omega, O⟩, (fCX (fCX (fN _))), agX⟩
     ·refine sq ?_
      refine rg ?_
      refine mv (v := .int .u16 _) rfl rfl ?_
      refine leq rfl rfl rfl ?_
      refine mv (v := .bool _) rfl rfl ?_
      refine spT (t := 28) rfl (by omega) ?_
      refine gy rfl ?_
      refine mv (v := .int .u16 _) rfl rfl ?_
      refine gy rfl ?_
      refine lss rfl rfl rfl ?_
      refine pkT (v := .bool _) rfl rfl rfl ?_
      refine mv (v := .bool _) rfl rfl ?_
      refine spd (t := 32) rfl (fun hg2 => ?_) (fun hg2 => ?_)
      ·refine gy rfl ?_
       refine mv (v := .int .i64 _) rfl rfl ?_
       refine gy rfl ?_
       refine add rfl rfl (by first | exact w_i64 (by omega) | exact w_i64 (rng_i64 _) | rfl) rfl ?_
       refine gy rfl ?_
       refine mv (v := .slice _ _ _) rfl rfl ?_
       refine gy rfl ?_
       refine lnS rfl Tryd.underlying80 rfl ?_
       refine gy rfl ?_
       refine lss rfl rfl rfl ?_
       refine pkT (v := .bool _) rfl rfl rfl ?_
       refine mv (v := .bool _) rfl rfl ?_
       refine spd (t := 39) rfl (fun hg3 => ?_) (fun hg3 => ?_)
       ·obtain ⟨v2, hv2⟩ : ∃ v, us[i + 1]? = some v := ⟨_, List.getElem?_eq_getElem (by omega)⟩
        have hvr := hus v2 (List.mem_of_getElem? hv2)
        have hcell2 := H.fr.cell (hR.at hv2) (by simpa [add_block] using hnb)
        refine gy rfl ?_
        refine mv (v := .slice _ _ _) rfl rfl ?_
        refine gy rfl ?_
        refine mv (v := .int .i64 _) rfl rfl ?_
        refine gy rfl ?_
        refine add rfl rfl (by first | exact w_i64 (by omega) | exact w_i64 (rng_i64 _) | rfl) rfl ?_
        refine gy rfl ?_
        refine iBN (ad.add (i + 1)) rfl rfl Tryd.underlying80 sz25_1 (by omega) (congrArg ad.add (by omega)) rfl ?_
        refine gy rfl ?_
        refine lc rfl (by first | assumption | exact H.fr.cell (by assumption) (by simp)) sc25 rfl ?_
        refine gy rfl ?_
        refine leq rfl rfl rfl ?_
        refine pkT (v := .bool _) rfl rfl rfl ?_
        refine mv (v := .bool _) rfl rfl ?_
        refine spd (t := 47) rfl (fun hg4 => ?_) (fun hg4 => ?_)
        ·refine gy rfl ?_
         refine mv (v := .slice _ _ _) rfl rfl ?_
         refine gy rfl ?_
         refine mv (v := .int .i64 _) rfl rfl ?_
         refine gy rfl ?_
         refine add rfl rfl (by first | exact w_i64 (by omega) | exact w_i64 (rng_i64 _) | rfl) rfl ?_
         refine gy rfl ?_
         refine iBN (ad.add (i + 1)) rfl rfl Tryd.underlying80 sz25_1 (by omega) (congrArg ad.add (by omega)) rfl ?_
         refine gy rfl ?_
         refine lc rfl (by first | assumption | exact H.fr.cell (by assumption) (by simp)) sc25 rfl ?_
         refine gy rfl ?_
         refine lss rfl rfl rfl ?_
         refine pkT (v := .bool _) rfl rfl rfl ?_
         refine asg (v := .bool _) rfl rfl ?_
         refine nl ?_
         refine then_n ?_
         refine cd rfl (fun hc5 => ?_) (fun hc5 => ?_)
         ·refine sq ?_
          refine rg ?_
          refine mv (v := .int .u16 _) rfl rfl ?_
          refine cvi rfl rfl Tryd.underlying21 (by first | exact w_i32 (by omega) | exact w_i32 (rng_i32 _) | rfl) rfl ?_
          refine mv (v := .slice _ _ _) rfl rfl ?_
          refine mv (v := .int .i64 _) rfl rfl ?_
          refine add rfl rfl (by first | exact w_i64 (by omega) | exact w_i64 (rng_i64 _) | rfl) rfl ?_
          refine iBN (ad.add (i + 1)) rfl rfl Tryd.underlying80 sz25_1 (by omega) (congrArg ad.add (by omega)) rfl ?_
          refine lc rfl (by first | assumption | exact H.fr.cell (by assumption) (by simp)) sc25 rfl ?_
          refine cvi rfl rfl Tryd.underlying21 (by first | exact w_i32 (by omega) | exact w_i32 (rng_i32 _) | rfl) rfl ?_
          refine cl ca81 (c_decRune _ u v2 (by omega) (by omega)) rfl ?_
          rintro _ w2 ⟨rfl, F⟩
          replace H := H.keep F; replace O := O.keep F; clear F
          refine asg (v := .int .i32 _) rfl rfl ?_
          refine nl ?_
          refine then_n ?_
          refine rg ?_
          refine mv (v := .int .i64 _) rfl rfl ?_
          refine add rfl rfl (by first | exact w_i64 (by omega) | exact w_i64 (rng_i64 _) | rfl) rfl ?_
          refine asg (v := .int .i64 _) rfl rfl ?_
          refine nl ?_
          refine in_n ?_
          refine then_n ?_
          exact ⟨(_, i + 1), ⟨by omega, by omega, dec_B hu hv2 (by omega) (by omega), by omega, O⟩, (fCX (fCX (fN _))), agX⟩
         ·refine rg ?_
          refine asg (v := .int .i32 _) rfl rfl ?_
          refine nl ?_
          refine in_n ?_
          refine then_n ?_
          exact ⟨(65533, i), ⟨by omega, by omega, dec_C hu (by omega) (fun v h => by rw [hv2] at h; cases h; omega), by omega, O⟩, (fCX (fCX (fN _))), agX⟩
        ·refine gn rfl rfl ?_
         refine gn rfl rfl ?_
         refine gn rfl rfl ?_
         refine gn rfl rfl ?_
         refine gn rfl rfl ?_
         refine gn rfl rfl ?_
         refine pkF (v := .bool _) rfl rfl rfl ?_
         refine asg (v := .bool _) rfl rfl ?_
         refine nl ?_
         refine then_n ?_
         refine cbF rfl rfl ?_
         refine rg ?_
         refine asg (v := .int .i32 _) rfl rfl ?_
         refine nl ?_
         refine in_n ?_
         refine then_n ?_
         exact ⟨(65533, i), ⟨by omega, by omega, dec_C hu (by omega) (fun v h => by rw [hv2] at h; cases h; omega), by omega, O⟩, (fCX (fCX (fN _))), agX⟩
       ·refine gn rfl rfl ?_
        refine gn rfl rfl ?_
        refine gn rfl rfl ?_
        refine gn rfl rfl ?_
        refine gn rfl rfl ?_
        refine gn rfl rfl ?_
        refine pkF (v := .bool _) rfl rfl rfl ?_
        refine mv (v := .bool _) rfl rfl ?_
        refine gn rfl rfl ?_
        refine gn rfl rfl ?_
        refine gn rfl rfl ?_
        refine gn rfl rfl ?_
        refine gn rfl rfl ?_
        refine gn rfl rfl ?_
        refine pkF (v := .bool _) rfl rfl rfl ?_
        refine asg (v := .bool _) rfl rfl ?_
        refine nl ?_
        refine then_n ?_
        refine cbF rfl rfl ?_
        refine rg ?_
        refine asg (v := .int .i32 _) rfl rfl ?_
        refine nl ?_
        refine in_n ?_
        refine then_n ?_
        exact ⟨(65533, i), ⟨by omega, by omega, dec_C hu (by omega) (fun v h => by have := (List.getElem?_eq_some_iff.1 h).1; omega), by omega, O⟩, (fCX (fCX (fN _))), agX⟩
      ·refine gn rfl rfl ?_
       refine gn rfl rfl ?_
       refine gn rfl rfl ?_
       refine gn rfl rfl ?_
       refine gn rfl rfl ?_
       refine pkF (v := .bool _) rfl rfl rfl ?_
       refine mv (v := .bool _) rfl rfl ?_
       refine gn rfl rfl ?_
       refine gn rfl rfl ?_
       refine gn rfl rfl ?_
       refine gn rfl rfl ?_
       refine gn rfl rfl ?_
       refine gn rfl rfl ?_
       refine pkF (v := .bool _) rfl rfl rfl ?_
       refine mv (v := .bool _) rfl rfl ?_
       refine gn rfl rfl ?_
       refine gn rfl rfl ?_
       refine gn rfl rfl ?_
       refine gn rfl rfl ?_
       refine gn rfl rfl ?_
       refine gn rfl rfl ?_
       refine pkF (v := .bool _) rfl rfl rfl ?_
       refine asg (v := .bool _) rfl rfl ?_
       refine nl ?_
       refine then_n ?_
       refine cbF rfl rfl ?_
       refine rg ?_
       refine asg (v := .int .i32 _) rfl rfl ?_
       refine nl ?_
       refine in_n ?_
       refine then_n ?_
       exact ⟨(65533, i), ⟨by omega, by omega, dec_C hu (by omega) (fun v h => by omega), by omega, O⟩, (fCX (fCX (fN _))), agX⟩
   ·rintro ⟨r, j⟩ ρx w3 ⟨hj, hjn, hdr, hrr, O⟩
    have H := O.sh
    refine rg ?_
    refine mv (v := .slice _ _ _) rfl rfl ?_
    refine mv (v := .int .i32 _) rfl rfl ?_
    refine bsl (sz := 1) (out := ?o1) H Tryd.underlying147 ze21 sz21_1 (by decide) ?f1 rfl ?_
    case f1 =>
     refine FS.one (v := .int .i32 _) rfl rfl rfl (by first | decide | simp) ?_
     exact FS.nil
    intro b1 w4 hb1 H1 F; replace O := O.new F hb1 H1.look; clear H H1 F; have H := O.sh
    refine apO (zs := [.int .i32 0]) [.int .i32 r] O rfl rfl Tryd.underlying147 ri21 (by first | rfl | simp) (cells_look H.look) (by simp [Value.oneCell']) (by simp) (by omega) (by unfold maxLen; omega) rfl ?_
    clear O H; intro D9 cp9 w5 O
    have H := O.sh
    refine asg (v := .slice _ _ _) rfl rfl ?_
    refine nl ?_
    refine in_n ?_
    refine then_n ?_
    refine rg ?_
    refine mv (v := .int .i64 _) rfl rfl ?_
    refine add rfl rfl (by first | exact w_i64 (by omega) | exact w_i64 (rng_i64 _) | rfl) rfl ?_
    refine asg (v := .int .i64 _) rfl rfl ?_
    refine nl ?_
    refine loop_n ?_
    exact ⟨(j + 1, D9, cp9, rs ++ [r]), (by (try dsimp only); omega), ⟨by omega, by simp; omega, by rw [hd, hdr, List.append_assoc]; rfl, by rw [List.length_append, List.map_append]; exact O.subX⟩, (fCX (fCX (fN _))), agX⟩
  ·refine ex ?_
   refine then_e ?_
   refine loop_e ?_
   refine in_hit rfl ?_
   refine then_n ?_
   refine sq ?_
   refine rg ?_
   refine mv (v := .slice _ _ _) rfl rfl ?_
   refine asg (v := .slice _ _ _) rfl rfl ?_
   refine nl ?_
   refine then_n ?_
   refine rt ?_
   refine fin_r ?_
   obtain rfl : i = n := by omega
   have e : dec16 us = rs := by rw [hd, List.drop_of_length_le (by omega)]; simp [dec16]
   rw [e]
   exact ⟨_, _, rfl, O⟩
set_option maxRecDepth 100000 in
set_option maxHeartbeats 1000000 in
theorem c_Decode (w : World) (A : Option Addr) (n c : Nat) (us : List Int) (hR : R16 w A n us) (hn : n ≤ 1000000) (hus : ∀ u ∈ us, 0 ≤ u ∧ u ≤ 65535) : Calls Tryd.prog 79 #[.slice A n c] w (Ret fun v w' => ∃ D cap, v = .slice D (dec16 us).length cap ∧ OR 21 1 w [] w' [] D (dec16 us).length cap ((dec16 us).map (Value.int .i32))) := by
 refine enter (fun ρ => ρ 2) Tryd.func79 rfl rfl rfl (res1 rfl) ?_
 have H := SH.nil w
 have hul := hR.1
 refine sq ?_
 refine rg ?_
 refine asg (v := .slice _ _ _) rfl rfl ?_
 refine nl ?_
 refine then_n ?_
 refine sq ?_
 refine rg ?_
 refine mk H rfl rfl Tryd.underlying147 mi21 (by omega) (by omega) (by omega) (by omega) rfl ?_
 clear H; intro b1 w1 hb1 H _
 refine asg (v := .slice _ _ _) rfl rfl ?_
 refine nl ?_
 refine then_n ?_
 refine sq ?_
 refine rg ?_
 refine mv (v := .slice _ _ _) rfl rfl ?_
 refine mv (v := .slice _ _ _) rfl rfl ?_
 refine cl ca80 (c_decode _ A n _ b1 64 us (hR.keep H.fr) hn (fun h ad e => by subst e; obtain ⟨u0, hu0⟩ : ∃ u, us[0]? = some u := ⟨_, List.getElem?_eq_getElem (by omega)⟩; have := cell_lt (hR.at hu0); omega) hus (H.look (b := b1)) (by decide)) rfl ?_
 rintro _ w2 ⟨DD, capD, rfl, O⟩
 have O := O.under H.fr hb1
 refine asg (v := .slice _ _ _) rfl rfl ?_
 refine nl ?_
 refine then_n ?_
 refine rt ?_
 refine fin_r ?_
 exact ⟨_, _, rfl, O⟩
end Go.Proofs.YthcaejaaalkglaaDoor.X
/- Walks of functions, printed by a program of this claim. -/
namespace Go.Proofs.YthcaejaaalkglaaDoor.X
set_option linter.unusedVariables false
set_option linter.unusedSimpArgs false
open Go Go.RowKit
namespace PF
theorem bo103 : buildOK Tryd.prog 103 = true := by kernel_rfl
theorem ca77 : callable Tryd.prog 77 = true := by kernel_rfl
theorem ca78 : callable Tryd.prog 78 = true := by kernel_rfl
theorem ca79 : callable Tryd.prog 79 = true := by kernel_rfl
theorem mi25 : elemInfo Tryd.prog 25 = some (.int .u16 0, 2) := by kernel_rfl
theorem pl103_0 : placeOf Tryd.prog 103 0 = some (0, 1) := by kernel_rfl
theorem pl103_1 : placeOf Tryd.prog 103 1 = some (1, 1) := by kernel_rfl
theorem pl103_2 : placeOf Tryd.prog 103 2 = some (2, 1) := by kernel_rfl
theorem pl103_4 : placeOf Tryd.prog 103 4 = some (4, 1) := by kernel_rfl
theorem pl103_5 : placeOf Tryd.prog 103 5 = some (5, 1) := by kernel_rfl
theorem pl103_6 : placeOf Tryd.prog 103 6 = some (6, 1) := by kernel_rfl
theorem pl103_7 : placeOf Tryd.prog 103 7 = some (7, 1) := by kernel_rfl
theorem pl103_8 : placeOf Tryd.prog 103 8 = some (8, 1) := by kernel_rfl
theorem pl103_9 : placeOf Tryd.prog 103 9 = some (9, 1) := by kernel_rfl
theorem ze103 : zeroL Tryd.prog 103 = some [.int .i64 0, .int .u64 0, .int .u64 0, .int .u64 0, .string ⟨#[]⟩, .string ⟨#[]⟩, .string ⟨#[]⟩, .int .u64 0, .int .i64 0, .int .i64 0] := by kernel_rfl
end PF
open PF
set_option maxRecDepth 100000 in
set_option maxHeartbeats 2000000 in
theorem c_partFrom (w : World) (k : Int) (q o c : Nat) (e : List UInt8) (hR : RB w (some ⟨q, o, none⟩) 128 e) (hc : 128 ≤ c) : Calls Tryd.prog 76 #[.int .i64 k, .slice (some ⟨q, o, none⟩) 128 c, .int .i64 512, .int .i64 512] w (Ret fun v w' => (∃ A, v = .tuple #[.pointer A, .nilIface] ∧ A.isNone = freeE e ∧ (freeE e = false → ∃ p, A = some ⟨p, 0, none⟩ ∧ w.heap.size ≤ p ∧ w'.heap[p]? = some (.cells (entC k 0 e).toArray 103 (0, 0)))) ∧ Fr [] w w') := by
 refine enter (fun ρ => .tuple #[ρ 8, ρ 9]) Tryd.func76 rfl rfl rfl (res2 rfl) ?_
 have H := SH.nil w
 have hel := hR.1
 have hp16 : (pcs e 16 16).length = 16 := pcs_len (by omega)
 have hp0 : (pcs e 0 16).length = 16 := pcs_len (by omega)
 refine sq ?_
 refine rg ?_
 refine asg (v := .pointer _) rfl rfl ?_
 refine asg (v := .nilIface) rfl rfl ?_
 refine nl ?_
 refine then_n ?_
 refine sq ?_
 refine sq ?_
 refine rg ?_
 refine mv (v := .slice _ _ _) rfl rfl ?_
 refine lnS rfl Tryd.underlying30 rfl ?_
 refine neq rfl rfl rfl ?_
 refine nl ?_
 refine then_n ?_
 refine cF rfl (by omega) ?_
 refine sk ?_
 refine then_n ?_
 refine sq ?_
 refine sq ?_
 refine dr (by kernel_rfl) ?_
 have H := H.drew
 refine hold (fun _ => True) [] ?_
 refine tk (i := 0) rfl (by kernel_rfl) rfl trivial (fun _ _ => r_mv (v := .slice _ _ _) rfl) ?_
 refine tk (i := 1) rfl (by kernel_rfl) rfl trivial (fun _ _ => r_sllhN (o + 0) (16) (c - 0) rfl rfl rfl Tryd.underlying30 sz5_1 (by omega) (by omega)) ?_
 refine unfree ?_
 refine fo (i := 2) (by kernel_rfl) rfl rfl ?_
 refine cl ca77 (c_zeroU _) rfl ?_
 rintro _ w1 ⟨b1, rfl, hb1, ho1, F⟩
 replace H := H.new F hb1 ho1; clear F ho1
 refine nl ?_
 refine then_n ?_
 refine fo (i := 3) (by kernel_rfl) rfl rfl ?_
 refine cl ca63 (c_bytesEqual _ _ _ _ _ _ _ (pcs e 0 16) (List.replicate 16 0) (((hR.keep H.fr).drop (k := 0) (by omega)).take (k := 16) (by omega)) (RB.allm H rfl)) rfl ?_
 rintro _ w2 ⟨rfl, F⟩
 replace H := H.keep F; clear F
 refine nl ?_
 refine then_n ?_
 refine dn (by kernel_rfl) ?_
 refine then_n ?_
 refine cd rfl (fun hc2 => ?_) (fun hc2 => ?_)
 ·refine sq ?_
  refine rg ?_
  refine asg (v := .pointer _) rfl rfl ?_
  refine asg (v := .nilIface) rfl rfl ?_
  refine nl ?_
  refine then_n ?_
  refine rt ?_
  refine then_r ?_
  refine fin_r ?_
  exact ⟨⟨none, rfl, (decide_eq_true hc2).symm, fun h => by unfold freeE at h; rw [decide_eq_true hc2] at h; cases h⟩, H.fr⟩
 ·refine sk ?_
  refine then_n ?_
  refine sq ?_
  refine rg ?_
  refine mv (v := .slice _ _ _) rfl rfl ?_
  refine sllhN (o + 0) (16) (c - 0) rfl rfl rfl Tryd.underlying30 sz5_1 (by omega) (by omega) rfl ?_
  refine cl ca62 (c_toUUID _ (some ⟨q, o + 0, none⟩) 16 _ (pcs e 0 16) (((hR.keep H.fr).drop (k := 0) (by omega)).take (k := 16) (by omega)) rfl (by omega) ⟨_, _, rfl⟩) rfl ?_
  rintro _ w3 ⟨b2, cq2, jk2, rfl, hb2, ho2, F⟩
  replace H := H.new F hb2 ho2; clear F ho2
  refine cl ca61 (c_fromBytes _ _ _ _ (permB (pcs e 0 16)) (RB.bj H (permB_len _)) rfl) rfl ?_
  rintro _ w4 ⟨rfl, F⟩
  replace H := H.keep F; clear F
  refine mv (v := .tuple _) rfl rfl ?_
  refine xt rfl rfl rfl ?_
  refine xt rfl rfl rfl ?_
  refine al H ze130 rfl ?_
  clear H; intro b3 w5 hb3 H _
  refine sa (cs' := Bs (permB (pcs e 0 16))) H rfl rfl ag130_16 (by rw [Bs_length, permB_len]) (List.all_eq_true.2 Bs_one) (by decide) (by omega) (List.append_nil _) ?_
  clear H; intro w91 H _
  refine asg (v := .nilIface) rfl rfl ?_
  refine nl ?_
  refine then_n ?_
  refine sq ?_
  refine sq ?_
  refine rg ?_
  refine mv (v := .nilIface) rfl rfl ?_
  refine neqI0 rfl Tryd.underlying74 rfl ?_
  refine nl ?_
  refine then_n ?_
  refine cbF rfl rfl ?_
  refine sk ?_
  refine then_n ?_
  refine sq ?_
  refine rg ?_
  refine la (vs := Bs (permB (pcs e 0 16))) H rfl ag130_16 (by rw [Bs_length, permB_len]) (by rw [List.drop_zero, List.take_of_length_le (by rw [Bs_length, permB_len]; decide)]) rfl ?_
  refine cl ca70 (c_uuString _ _ (permB_len _)) rfl ?_
  rintro _ w6 ⟨rfl, F⟩
  replace H := H.keep F; clear F
  refine asg (v := .string _) rfl rfl ?_
  refine nl ?_
  refine then_n ?_
  refine sq ?_
  refine rg ?_
  refine mv (v := .slice _ _ _) rfl rfl ?_
  refine sllhN (o + 16) (16) (c - 16) rfl rfl rfl Tryd.underlying30 sz5_1 (by omega) (by omega) rfl ?_
  refine cl ca62 (c_toUUID _ (some ⟨q, o + 16, none⟩) 16 _ (pcs e 16 16) (((hR.keep H.fr).drop (k := 16) (by omega)).take (k := 16) (by omega)) rfl (by omega) ⟨_, _, rfl⟩) rfl ?_
  rintro _ w7 ⟨b4, cq4, jk4, rfl, hb4, ho4, F⟩
  replace H := H.new F hb4 ho4; clear F ho4
  refine cl ca61 (c_fromBytes _ _ _ _ (permB (pcs e 16 16)) (RB.bj H (permB_len _)) rfl) rfl ?_
  rintro _ w8 ⟨rfl, F⟩
  replace H := H.keep F; clear F
  refine mv (v := .tuple _) rfl rfl ?_
  refine xt rfl rfl rfl ?_
  refine xt rfl rfl rfl ?_
  refine al H ze130 rfl ?_
  clear H; intro b5 w9 hb5 H _
  refine sa (cs' := Bs (permB (pcs e 16 16))) H rfl rfl ag130_16 (by rw [Bs_length, permB_len]) (List.all_eq_true.2 Bs_one) (by decide) (by omega) (List.append_nil _) ?_
  clear H; intro w92 H _
  refine asg (v := .nilIface) rfl rfl ?_
  refine nl ?_
  refine then_n ?_
  refine sq ?_
  refine sq ?_
  refine rg ?_
  refine mv (v := .nilIface) rfl rfl ?_
  refine neqI0 rfl Tryd.underlying74 rfl ?_
  refine nl ?_
  refine then_n ?_
  refine cbF rfl rfl ?_
  refine sk ?_
  refine then_n ?_
  refine sq ?_
  refine dr (by kernel_rfl) ?_
  have H := H.drew
  refine hold (fun _ => True) [] ?_
  refine tk (i := 1) rfl (by kernel_rfl) rfl trivial (fun _ _ => r_mv (v := .slice _ _ _) rfl) ?_
  refine tk (i := 2) rfl (by kernel_rfl) rfl trivial (fun _ _ => r_sllhN (o + 32) (8) (c - 32) rfl rfl rfl Tryd.underlying30 sz5_1 (by omega) (by omega)) ?_
  refine unfree ?_
  refine holdH H [] ?_
  refine tk (i := 0) rfl (by kernel_rfl) rfl H (fun w' H => r_lw (vs := []) rfl ag128_0 rfl (by simp)) ?_
  refine fk (i := 3) (by kernel_rfl) rfl rfl rfl ?_
  refine cl ca60 (c_uint64 _ _ _ _ (pcs e 32 8) (((hR.keep H.fr).drop (k := 32) (by omega)).take (k := 8) (by omega)) rfl) rfl ?_
  rintro _ w10 ⟨rfl, F⟩
  replace H := H.keep F; clear F
  refine nl ?_
  refine then_n ?_
  refine ⟨H, ?_⟩
  refine tk (i := 4) rfl (by kernel_rfl) rfl H (fun w' H => r_asg (v := .int .u64 _) rfl) ?_
  refine da (by kernel_rfl) ?_
  refine then_n ?_
  refine sq ?_
  refine dr (by kernel_rfl) ?_
  have H := H.drew
  refine hold (fun _ => True) [] ?_
  refine tk (i := 1) rfl (by kernel_rfl) rfl trivial (fun _ _ => r_mv (v := .slice _ _ _) rfl) ?_
  refine tk (i := 2) rfl (by kernel_rfl) rfl trivial (fun _ _ => r_sllhN (o + 40) (8) (c - 40) rfl rfl rfl Tryd.underlying30 sz5_1 (by omega) (by omega)) ?_
  refine unfree ?_
  refine holdH H [] ?_
  refine tk (i := 0) rfl (by kernel_rfl) rfl H (fun w' H => r_lw (vs := []) rfl ag128_0 rfl (by simp)) ?_
  refine fk (i := 3) (by kernel_rfl) rfl rfl rfl ?_
  refine cl ca60 (c_uint64 _ _ _ _ (pcs e 40 8) (((hR.keep H.fr).drop (k := 40) (by omega)).take (k := 8) (by omega)) rfl) rfl ?_
  rintro _ w11 ⟨rfl, F⟩
  replace H := H.keep F; clear F
  refine nl ?_
  refine then_n ?_
  refine ⟨H, ?_⟩
  refine tk (i := 4) rfl (by kernel_rfl) rfl H (fun w' H => r_asg (v := .int .u64 _) rfl) ?_
  refine da (by kernel_rfl) ?_
  refine then_n ?_
  refine sq ?_
  refine dr (by kernel_rfl) ?_
  have H := H.drew
  refine hold (fun _ => True) [] ?_
  refine tk (i := 1) rfl (by kernel_rfl) rfl trivial (fun _ _ => r_mv (v := .slice _ _ _) rfl) ?_
  refine tk (i := 2) rfl (by kernel_rfl) rfl trivial (fun _ _ => r_sllhN (o + 48) (8) (c - 48) rfl rfl rfl Tryd.underlying30 sz5_1 (by omega) (by omega)) ?_
  refine unfree ?_
  refine holdH H [] ?_
  refine tk (i := 0) rfl (by kernel_rfl) rfl H (fun w' H => r_lw (vs := []) rfl ag128_0 rfl (by simp)) ?_
  refine fk (i := 3) (by kernel_rfl) rfl rfl rfl ?_
  refine cl ca60 (c_uint64 _ _ _ _ (pcs e 48 8) (((hR.keep H.fr).drop (k := 48) (by omega)).take (k := 8) (by omega)) rfl) rfl ?_
  rintro _ w12 ⟨rfl, F⟩
  replace H := H.keep F; clear F
  refine nl ?_
  refine then_n ?_
  refine ⟨H, ?_⟩
  refine tk (i := 4) rfl (by kernel_rfl) rfl H (fun w' H => r_asg (v := .int .u64 _) rfl) ?_
  refine da (by kernel_rfl) ?_
  refine then_n ?_
  refine sq ?_
  refine rg ?_
  refine mv (v := .slice _ _ _) rfl rfl ?_
  refine sllN (o + 56) (72) (c - 56) rfl rfl Tryd.underlying30 sz5_1 (by omega) (by omega) rfl ?_
  refine asg (v := .slice _ _ _) rfl rfl ?_
  refine nl ?_
  refine then_n ?_
  refine sq ?_
  refine rg ?_
  refine mk H rfl rfl Tryd.underlying80 mi25 (by omega) (by omega) (by omega) (by omega) rfl ?_
  clear H; intro b6 w13 hb6 H _
  refine asg (v := .slice _ _ _) rfl rfl ?_
  refine nl ?_
  refine then_n ?_
  refine ctM (α := Option Addr × Nat) [18, 19, 20, 68, 69, 70, 71, 72, 73, 74, 75, 76, 77, 78, 79, 80, 81, 82, 83, 84, 85, 86] (fun (D, cap) => [(18, .slice D (nmU e).length cap)]) (fun (D, cap) w' => OR 25 1 w [] w' [⟨b5, .cells (Bs (permB (pcs e 16 16))).toArray 130 (0, 0), true⟩] D (nmU e).length cap ((nmU e).map (Value.int .u16))) ?_ ?_
  ·refine sq ?_
   refine rg ?_
   refine asg (v := .int .i64 _) rfl rfl ?_
   refine nl ?_
   refine then_n ?_
   refine bk ?_
   refine lpM (α := Nat × Option Addr × Nat) [18, 19, 20, 68, 69, 70, 71, 72, 73, 74, 75, 76, 77, 78, 79, 80, 81, 82, 83, 84, 85, 86] (fun (j, D, cap) => [(18, .slice D j cap), (19, .int .i64 (2 * (j : Int)))]) (fun (j, D, cap) w' => j ≤ 36 ∧ (∀ u ∈ (unE e).take j, u ≠ 0) ∧ OR 25 1 w [] w' [⟨b5, .cells (Bs (permB (pcs e 16 16))).toArray 130 (0, 0), true⟩] D j cap (((unE e).take j).map (Value.int .u16))) (fun (j, D, cap) => 36 - j) (0, some ⟨b6, 0, none⟩, 72) ?_ (fCX (fCX (fN _))) ?_
   ·exact ⟨by omega, by simp, OR.made (n := 0) (cur := List.replicate 72 (.int .u16 0)) (H.subX) (by omega) (by decide) rfl⟩
   ·rintro ⟨j, D, cap⟩ ρx w14 ⟨hj, hz, O⟩
    have H := O.sh
    have hur : 0 ≤ fld e (56 + 2 * j) 2 ∧ fld e (56 + 2 * j) 2 ≤ 65535 := fld_rng2
    refine sq ?_
    refine sq ?_
    refine rg ?_
    refine mv (v := .int .i64 _) rfl rfl ?_
    refine mv (v := .slice _ _ _) rfl rfl ?_
    refine lnS rfl Tryd.underlying30 rfl ?_
    refine lss rfl rfl rfl ?_
    refine nl ?_
    refine then_n ?_
    refine cd rfl (fun hc5 => ?_) (fun hc5 => ?_)
    ·refine sk ?_
     refine then_n ?_
     refine sq ?_
     refine bk ?_
     refine sq ?_
     refine dr (by kernel_rfl) ?_
     have H := H.drew
     replace O := O.drew
     refine hold (fun _ => True) [] ?_
     refine tk (i := 1) rfl (by kernel_rfl) rfl trivial (fun _ _ => r_mv (v := .slice _ _ _) rfl) ?_
     refine tk (i := 2) rfl (by kernel_rfl) rfl trivial (fun _ _ => r_mv (v := .int .i64 _) rfl) ?_
     refine tk (i := 3) rfl (by kernel_rfl) rfl trivial (fun _ _ => r_mv (v := .int .i64 _) rfl) ?_
     refine tk (i := 4) rfl (by kernel_rfl) rfl trivial (fun _ _ => r_add rfl rfl (by first | exact w_i64 (by omega) | exact w_i64 (rng_i64 _) | rfl)) ?_
     refine tk (i := 5) rfl (by kernel_rfl) rfl trivial (fun _ _ => r_sllhN (o + (56 + 2 * j)) (2) (c - (56 + 2 * j)) rfl rfl rfl Tryd.underlying30 sz5_1 (by omega) (by omega)) ?_
     refine unfree ?_
     refine holdH H [] ?_
     refine tk (i := 0) rfl (by kernel_rfl) rfl H (fun w' H => r_lw (vs := []) rfl ag128_0 rfl (by simp)) ?_
     refine fk (i := 6) (by kernel_rfl) rfl rfl rfl ?_
     refine cl ca78 (c_uint16 _ _ _ _ (pcs e (56 + 2 * j) 2) (((hR.keep H.fr).drop (k := 56 + 2 * j) (by omega)).take (k := 2) (by omega)) rfl) rfl ?_
     rintro _ w15 ⟨rfl, F⟩
     replace H := H.keep F; replace O := O.keep F; clear F
     refine nl ?_
     refine then_n ?_
     refine ⟨H, ?_⟩
     refine tk (i := 7) rfl (by kernel_rfl) rfl H (fun w' H => r_asg (v := .int .u16 _) rfl) ?_
     refine da (by kernel_rfl) ?_
     refine then_n ?_
     refine sq ?_
     refine sq ?_
     refine rg ?_
     refine mv (v := .int .u16 _) rfl rfl ?_
     refine eql rfl rfl rfl ?_
     refine nl ?_
     refine then_n ?_
     refine cd rfl (fun hc6 => ?_) (fun hc6 => ?_)
     ·have hnu := nmU_at hz (by omega) (by assumption)
      have hnl : (nmU e).length = j := by rw [hnu, take_unE_len (by omega)]
      refine ex ?_
      refine then_e ?_
      refine in_miss rfl ?_
      refine then_e ?_
      refine loop_e ?_
      refine in_hit rfl ?_
      refine then_n ?_
      exact ⟨(D, cap), by rw [hnl, hnu]; exact O, (fCX (fN _)), agX⟩
     ·refine sk ?_
      refine then_n ?_
      refine rg ?_
      refine mv (v := .slice _ _ _) rfl rfl ?_
      refine mv (v := .int .u16 _) rfl rfl ?_
      refine bsl (sz := 1) (out := ?o1) H Tryd.underlying80 ze25 sz25_1 (by decide) ?f1 rfl ?_
      case f1 =>
       refine FS.one (v := .int .u16 _) rfl rfl rfl (by first | decide | simp) ?_
       exact FS.nil
      intro b7 w16 hb7 H1 F; replace O := O.new F hb7 H1.look; clear H H1 F; have H := O.sh
      refine apO (zs := [.int .u16 0]) [.int .u16 (fld e (56 + 2 * j) 2)] O rfl rfl Tryd.underlying80 ri25 (by first | rfl | simp) (cells_look H.look) (by simp [Value.oneCell']) (by simp) (by omega) (by unfold maxLen; omega) rfl ?_
      clear O H; intro D9 cp9 w17 O
      have H := O.sh
      refine asg (v := .slice _ _ _) rfl rfl ?_
      refine nl ?_
      refine in_n ?_
      refine then_n ?_
      refine rg ?_
      refine mv (v := .int .i64 _) rfl rfl ?_
      refine add rfl rfl (by first | exact w_i64 (by omega) | exact w_i64 (rng_i64 _) | rfl) rfl ?_
      refine asg (v := .int .i64 _) rfl rfl ?_
      refine nl ?_
      refine loop_n ?_
      exact ⟨(j + 1, D9, cp9), (by (try dsimp only); omega), ⟨by omega, nz_next hz (by omega) (by assumption), by rw [unE_succ (by omega), List.map_append]; exact O.subX⟩, (fCX (fCX (fN _))), agX⟩
    ·have hnu := nmU_full hz (by omega)
     have hnl : (nmU e).length = j := by rw [hnu, take_unE_len (by omega)]
     refine ex ?_
     refine then_e ?_
     refine loop_e ?_
     refine in_hit rfl ?_
     refine then_n ?_
     exact ⟨(D, cap), by rw [hnl, hnu]; exact O, (fCX (fN _)), agX⟩
  ·rintro ⟨D, cap⟩ ρx w18 O
   have H := O.sh
   refine sq ?_
   refine rg ?_
   refine mv (v := .slice _ _ _) rfl rfl ?_
   refine cl ca79 (c_Decode _ _ _ _ (nmU e) O.r16 (by have := nmU_len e; omega) nmU_rng) rfl ?_
   rintro _ w19 ⟨DU, capU, rfl, OU⟩
   replace H := H.keep OU.sh.fr; clear O
   refine asg (v := .slice _ _ _) rfl rfl ?_
   refine nl ?_
   refine then_n ?_
   refine sq ?_
   refine rg ?_
   refine mv (v := .slice _ _ _) rfl rfl ?_
   refine cvRO OU rfl Tryd.underlying147 Tryd.underlying21 Tryd.underlying9 rfl ?_
   refine asg (v := .string _) rfl rfl ?_
   refine nl ?_
   refine then_n ?_
   refine sq ?_
   refine rg ?_
   refine mv (v := .int .i64 _) rfl rfl ?_
   refine mv (v := .int .u64 _) rfl rfl ?_
   refine mv (v := .int .u64 _) rfl rfl ?_
   refine mv (v := .string _) rfl rfl ?_
   refine la (vs := Bs (permB (pcs e 16 16))) H rfl ag130_16 (by rw [Bs_length, permB_len]) (by rw [List.drop_zero, List.take_of_length_le (by rw [Bs_length, permB_len]; decide)]) rfl ?_
   refine cl ca70 (c_uuString _ _ (permB_len _)) rfl ?_
   rintro _ w20 ⟨rfl, F⟩
   replace H := H.keep F; clear F
   refine cl ca69 (c_upper _ _ (by have := sTp_len (permB (pcs e 16 16)) 16; unfold sT; omega)) rfl ?_
   rintro _ w21 ⟨rfl, F⟩
   replace H := H.keep F; clear F
   rw [up_sT hp16]
   refine mv (v := .int .u64 _) rfl rfl ?_
   refine mv (v := .string _) rfl rfl ?_
   refine cl ca69 (c_upper _ _ (by have := sTp_len (permB (pcs e 0 16)) 16; unfold sT; omega)) rfl ?_
   rintro _ w22 ⟨rfl, F⟩
   replace H := H.keep F; clear F
   rw [up_sT hp0]
   refine mv (v := .int .i64 _) rfl rfl ?_
   refine mv (v := .int .i64 _) rfl rfl ?_
   refine bu (out := ?o2) ze103 bo103 ?f2 rfl ?_
   case f2 =>
    refine FL.one (v := .int .i64 _) rfl pl103_0 rfl (by first | decide | simp) ?_
    refine FL.one (v := .int .u64 _) rfl pl103_1 rfl (by first | decide | simp) ?_
    refine FL.one (v := .int .u64 _) rfl pl103_2 rfl (by first | decide | simp) ?_
    refine FL.one (v := .string _) rfl pl103_5 rfl (by first | decide | simp) ?_
    refine FL.one (v := .string _) rfl pl103_6 rfl (by first | decide | simp) ?_
    refine FL.one (v := .int .u64 _) rfl pl103_7 rfl (by first | decide | simp) ?_
    refine FL.one (v := .string _) rfl pl103_4 rfl (by first | decide | simp) ?_
    refine FL.one (v := .int .i64 _) rfl pl103_8 rfl (by first | decide | simp) ?_
    refine FL.one (v := .int .i64 _) rfl pl103_9 rfl (by first | decide | simp) ?_
    exact FL.nil
   refine bx (v := .agg _) H rfl rfl rfl ?_
   clear H; intro b8 w23 hb8 H _
   refine asg (v := .pointer _) rfl rfl ?_
   refine asg (v := .nilIface) rfl rfl ?_
   refine nl ?_
   refine then_n ?_
   refine rt ?_
   refine fin_r ?_
   exact ⟨⟨_, rfl, (decide_eq_false hc2).symm, fun _ => ⟨_, rfl, H.ge, H.look⟩⟩, H.fr⟩
end Go.Proofs.YthcaejaaalkglaaDoor.X
/- The array of entries, read. -/
namespace Go.Proofs.YthcaejaaalkglaaDoor.X
set_option linter.unusedVariables false
open Go Go.RowKit
def szE (e : List UInt8) : Int := ((fld e 40 8 - fld e 32 8) % 18446744073709551616 + 1) % 18446744073709551616 * 512 % 18446744073709551616
def entA (ar : List UInt8) (j : Nat) : List UInt8 := pcs ar (128 * j) 128
def useJ (ar : List UInt8) (j : Nat) : Option (List Value) := if freeE (entA ar j) then none else some (entC ((j : Int) + 1) (szE (entA ar j)) (entA ar j))
def usedC (ar : List UInt8) (i : Nat) : List (List Value) := (List.range i).filterMap (useJ ar)
theorem usedC_free {ar : List UInt8} {i : Nat} (h : freeE (entA ar i) = true) : usedC ar (i + 1) = usedC ar i := by
 unfold usedC
 rw [List.range_succ, List.filterMap_append]
 simp [useJ, h]
theorem usedC_use {ar : List UInt8} {i : Nat} (h : freeE (entA ar i) = false) : usedC ar (i + 1) = usedC ar i ++ [entC ((i : Int) + 1) (szE (entA ar i)) (entA ar i)] := by
 unfold usedC
 rw [List.range_succ, List.filterMap_append]
 simp [useJ, h]
theorem OR.joinN {e : TypeId} {sz : Nat} {w0 w w' : World} {S : List Nat} {L N : List Ent} {A : Option Addr} {n cap : Nat} {xs : List Value} (O : OR e sz w [] w' N A n cap xs) (H : SH w0 S w L) (hm : ∀ x ∈ N, x.m = true) : OR e sz w0 S w' (L ++ N) A n cap xs := by
 have O2 : OR e sz w0 S w' (N ++ L) A n cap xs := by
  refine ⟨O.len, H.join O.sh hm, ?_⟩
  rcases O.own with h | ⟨b, cur, h1, h2, h3, h4, h5, h6⟩
  ·exact .inl h
  ·refine .inr ⟨b, cur, h1, h2, h3, h4, h5, ?_⟩
   exact H.join h6 (fun x hx => by
    rcases List.mem_cons.1 hx with rfl | hx
    ·rfl
    ·exact hm x hx)
 exact O2.perm List.perm_append_comm
theorem SH.wide {w0 w : World} {S : List Nat} {L : List Ent} (H : SH w0 [] w L) : SH w0 S w L :=
 ⟨H.fr.mono (by simp), H.get, H.ap, fun x hx hm => .inr ((H.mu x hx hm).resolve_left (by simp))⟩
theorem OR.wide {e : TypeId} {sz : Nat} {w0 w : World} {S : List Nat} {L : List Ent} {A : Option Addr} {n cap : Nat} {xs : List Value} (O : OR e sz w0 [] w L A n cap xs) : OR e sz w0 S w L A n cap xs :=
 ⟨O.len, O.sh.wide, O.own.imp id fun ⟨b, cur, h1, h2, h3, h4, h5, h6⟩ => ⟨b, cur, h1, h2, h3, h4, h5, h6.wide⟩⟩
theorem ents_m1 {T : TypeId} {l : PL} {p : Nat} {o : Obj} : ∀ x ∈ ((⟨p, o, true⟩ : Ent) :: ents T l), x.m = true := fun x hx => by
 rcases List.mem_cons.1 hx with rfl | hx
 ·rfl
 ·exact ents_m x hx
theorem nb_t {a b : Bool} (h : b = !a) (h2 : b = true) : a = false := by subst h; simpa using h2
theorem nb_f {a b : Bool} (h : b = !a) (h2 : b = false) : a = true := by subst h; simpa using h2
theorem SH.backS {w w1 w' : World} {S : List Nat} {L : List Ent} (F : Fr S w w1) (K : SH w1 S w' L) : SH w S w' L :=
 ⟨F.then K.fr (fun t ht => .inl ht), K.get, K.ap, fun x hx hm => (K.mu x hx hm).imp id fun h => Nat.le_trans F.size h⟩
theorem OR.backS {e : TypeId} {sz : Nat} {w w1 w' : World} {S : List Nat} {L : List Ent} {A : Option Addr} {n cap : Nat} {xs : List Value} (F : Fr S w w1) (O : OR e sz w1 S w' L A n cap xs) : OR e sz w S w' L A n cap xs :=
 ⟨O.len, O.sh.backS F, O.own.imp id fun ⟨b, cur, h1, h2, h3, h4, h5, h6⟩ => ⟨b, cur, h1, h2, h3, h4, h5, h6.backS F⟩⟩
theorem cell_lt0 {w : World} {ad : Addr} {v : Value} (h : w.cell? ad = some v) : ad.block < w.heap.size := by
 rcases Nat.lt_or_ge ad.block w.heap.size with h1 | h1
 ·exact h1
 ·exfalso
  unfold World.cell? at h
  rw [Array.getElem?_eq_none h1] at h
  simp at h
theorem RB.lt {w : World} {q o n : Nat} {bs : List UInt8} (h : RB w (some ⟨q, o, none⟩) n bs) (hn : 0 < n) : q < w.heap.size := by
 obtain ⟨ad, e, hc⟩ := h.2 0 hn
 cases e
 have := cell_lt hc
 exact this
theorem pcs0 {ds : List UInt8} {n p k : Nat} (h : p + k ≤ n) : pcs (pcs ds 0 n) p k = pcs ds p k := by rw [pcs_pcs h, Nat.zero_add]
theorem fld0 {ds : List UInt8} {n p k : Nat} (h : p + k ≤ n) : fld (pcs ds 0 n) p k = fld ds p k := by unfold fld; rw [pcs0 h]
theorem hdr0 {ds : List UInt8} : hdrGood (pcs ds 0 1024) 512 = hdrGood ds 512 := by
 unfold hdrGood sigOk crcOk
 rw [pcs0 (by decide), pcs0 (by decide), pcs0 (by decide), pcs0 (by decide), pcs0 (by decide), fld0 (by decide)]
theorem pcsA {ds : List UInt8} {a n p k : Nat} (h : p + k ≤ n) : pcs (pcs ds a n) p k = pcs ds (a + p) k := pcs_pcs h
theorem fldA {ds : List UInt8} {a n p k : Nat} (h : p + k ≤ n) : fld (pcs ds a n) p k = fld ds (a + p) k := by unfold fld; rw [pcsA h]
theorem hdrA {ds : List UInt8} {a : Nat} : hdrGood (pcs ds a 512) 0 = hdrGood ds a := by
 unfold hdrGood sigOk crcOk
 rw [pcsA (by decide), pcsA (by decide), pcsA (by decide), pcsA (by decide), pcsA (by decide), fldA (by decide)]
 rfl
section steps
variable {P : Program} {n : Nat} {ops : Array Oper} {Q : Post} {rest : List Oper} {ρ : Env} {w : World} {ty : TypeId} {pos : String} {af : Array Edge} {d : Nat}
theorem sllX {t e : TypeId} {x lo : Operand} {b o len cap sz : Nat} {k : IntKind} {l : Int} (o' m' c' : Nat) (hx : ev ρ x = .slice (some ⟨b, o, none⟩) len cap) (h1 : ev ρ lo = .int k l) (hu : P.underlying t = some (.slice e)) (hs : sizeB P e sz = true) (hb : 0 ≤ l ∧ l ≤ len ∧ len ≤ cap) (ho : (l = cap → o' = o) ∧ (l ≠ cap → o' = o + l.toNat * sz) ∧ len - l.toNat = m' ∧ cap - l.toNat = c') (hn : Nat.blt d n = true)
  (kk : wl P n ops Q rest (upd ρ d (.slice (some ⟨b, o', none⟩) m' c')) w) : wl P n ops Q (⟨some d, .slice t x (some lo) none none, ty, pos, af, none⟩ :: rest) ρ w := by
 by_cases hc : l = cap
 ·obtain rfl := ho.1 hc
  refine val rfl rfl hn ?_ kk
  subst hc
  have e1 : len = cap := by omega
  subst e1
  have h2 : m' = 0 := by have := ho.2.2.1; simp at this; omega
  have h3 : c' = 0 := by have := ho.2.2.2; simp at this; omega
  subst h2; subst h3
  simp [execOp, hx, h1, Instr.sliceAt, run_underlying hu, Instr.slice, Instr.sliceBounds, Instr.sliceBound, asIntOf, run_sizeOf hs]
 ·exact sllN o' m' c' hx h1 hu hs ⟨hb.1, hb.2.1, by omega⟩ ⟨(ho.2.1 hc).symm, ho.2.2⟩ hn kk
end steps
end Go.Proofs.YthcaejaaalkglaaDoor.X
/- Walks of functions, printed by a program of this claim. -/
namespace Go.Proofs.YthcaejaaalkglaaDoor.X
set_option linter.unusedVariables false
set_option linter.unusedSimpArgs false
open Go Go.RowKit
namespace PF
theorem ca76 : callable Tryd.prog 76 = true := by kernel_rfl
theorem fo103_1 : fieldOff Tryd.prog 103 1 = some 1 := by kernel_rfl
theorem fo103_2 : fieldOff Tryd.prog 103 2 = some 2 := by kernel_rfl
theorem fo103_3 : fieldOff Tryd.prog 103 3 = some 3 := by kernel_rfl
theorem mi100 : elemInfo Tryd.prog 100 = some (.pointer none, 8) := by kernel_rfl
theorem ri100 : rowInfo Tryd.prog 100 = some ([.pointer none], 8) := by kernel_rfl
theorem sz100_1 : sizeB Tryd.prog 100 1 = true := by kernel_rfl
theorem ze100 : zeroL Tryd.prog 100 = some [.pointer none] := by kernel_rfl
end PF
open PF
set_option maxRecDepth 100000 in
set_option maxHeartbeats 1000000 in
theorem c_readArr (w : World) (q n c m : Nat) (ar : List UInt8) (hR : RB w (some ⟨q, 0, none⟩) n ar) (hc : n ≤ c) (hn : n = 128 * m) (hm : m ≤ 100000) : Calls Tryd.prog 74 #[.slice (some ⟨q, 0, none⟩) n c, .int .i64 128, .int .i64 512, .int .i64 512] w (Ret fun v w' => ∃ D cap l, v = .tuple #[.slice D l.length cap, .nilIface] ∧ l.map Prod.snd = usedC ar m ∧ l.length ≤ m ∧ OR 100 1 w [] w' (ents 103 l) D l.length cap (ptrs l)) := by
 refine enter (fun ρ => .tuple #[ρ 8, ρ 9]) Tryd.func74 rfl rfl rfl (res2 rfl) ?_
 have H := SH.nil w
 have hrl := hR.1
 refine sq ?_
 refine rg ?_
 refine asg (v := .slice _ _ _) rfl rfl ?_
 refine asg (v := .nilIface) rfl rfl ?_
 refine nl ?_
 refine then_n ?_
 refine sq ?_
 refine rg ?_
 refine mk H rfl rfl Tryd.underlying97 mi100 (by omega) (by omega) (by omega) (by omega) rfl ?_
 clear H; intro b1 w1 hb1 H _
 refine asg (v := .slice _ _ _) rfl rfl ?_
 refine nl ?_
 refine then_n ?_
 refine sq ?_
 refine sq ?_
 refine rg ?_
 refine mv (v := .slice _ _ _) rfl rfl ?_
 refine asg (v := .int .i64 _) rfl rfl ?_
 refine asg (v := .slice _ _ _) rfl rfl ?_
 refine nl ?_
 refine then_n ?_
 refine bk ?_
 refine lpM (α := Nat × Nat × Option Addr × Nat × PL) [8, 9, 10, 11, 12, 13, 14, 15, 18, 19, 20, 21, 22, 23, 24, 25, 26, 27, 28, 29, 30, 31, 32, 33, 34, 35, 36, 37, 38, 39, 40, 41, 42, 43, 44, 45, 46, 47, 48, 49, 50, 51, 52, 53, 54, 55, 56, 57, 58, 59, 60, 61, 62, 63] (fun (i, o, D, cap, l) => [(10, .slice D l.length cap), (11, .int .i64 (i : Int)), (12, .slice (some ⟨q, o, none⟩) (n - 128 * i) (c - 128 * i))]) (fun (i, o, D, cap, l) w' => 128 * i ≤ n ∧ (128 * i < n → o = 128 * i) ∧ l.map Prod.snd = usedC ar i ∧ l.length ≤ i ∧ OR 100 1 w [] w' (ents 103 l) D l.length cap (ptrs l)) (fun (i, o, D, cap, l) => n - 128 * i) (0, 0, some ⟨b1, 0, none⟩, 0, []) ?_ (fCX (fCX (fCX (fN _)))) ?_
 ·exact ⟨by omega, by omega, rfl, by simp, OR.made (n := 0) (cur := List.replicate 0 (.pointer none)) H (by omega) (by decide) rfl⟩
 ·rintro ⟨i, o, D, cap, l⟩ ρx w2 ⟨hi, ho, hl, hll, O⟩
  have H := O.sh
  refine sq ?_
  refine sq ?_
  refine rg ?_
  refine mv (v := .slice _ _ _) rfl rfl ?_
  refine lnS rfl Tryd.underlying30 rfl ?_
  refine mv (v := .int .i64 _) rfl rfl ?_
  refine geq rfl rfl rfl ?_
  refine nl ?_
  refine then_n ?_
  refine cd rfl (fun hc1 => ?_) (fun hc1 => ?_)
  ·obtain rfl : o = 128 * i := ho (by omega)
   refine sk ?_
   refine then_n ?_
   refine sq ?_
   refine bk ?_
   refine sq ?_
   refine rg ?_
   refine mv (v := .slice _ _ _) rfl rfl ?_
   refine mv (v := .int .i64 _) rfl rfl ?_
   refine slhN (128) rfl rfl Tryd.underlying30 sz5_1 (by omega) (by omega) rfl ?_
   refine asg (v := .slice _ _ _) rfl rfl ?_
   refine nl ?_
   refine then_n ?_
   refine sq ?_
   refine rg ?_
   refine mv (v := .int .i64 _) rfl rfl ?_
   refine add rfl rfl (by first | exact w_i64 (by omega) | exact w_i64 (rng_i64 _) | rfl) rfl ?_
   refine mv (v := .slice _ _ _) rfl rfl ?_
   refine mv (v := .int .i64 _) rfl rfl ?_
   refine mv (v := .int .i64 _) rfl rfl ?_
   refine cl ca76 (c_partFrom _ ((i : Int) + 1) q (128 * i) (c - 128 * i) (entA ar i) (by have e := ((hR.keep H.fr).drop (k := 128 * i) (by omega)).take (k := 128) (by omega); rw [Nat.zero_add] at e; exact e) (by omega)) rfl ?_
   rintro _ w3 ⟨⟨A9, rfl, hno, hso⟩, F⟩
   refine mv (v := .tuple _) rfl rfl ?_
   refine xt rfl rfl rfl ?_
   refine xt rfl rfl rfl ?_
   refine asg (v := .pointer _) rfl rfl ?_
   refine asg (v := .nilIface) rfl rfl ?_
   refine nl ?_
   refine then_n ?_
   refine sq ?_
   refine sq ?_
   refine rg ?_
   refine mv (v := .nilIface) rfl rfl ?_
   refine neqI0 rfl Tryd.underlying74 rfl ?_
   refine nl ?_
   refine then_n ?_
   refine cbF rfl rfl ?_
   refine sk ?_
   refine then_n ?_
   refine sq ?_
   refine sq ?_
   refine rg ?_
   refine mv (v := .pointer _) rfl rfl ?_
   refine eqlP rfl Tryd.underlying100 rfl ?_
   refine nl ?_
   refine then_n ?_
   refine cn rfl (fun hc3 => ?_) (fun hc3 => ?_)
   ·replace O := O.keep F; have H := O.sh
    have hfr : freeE (entA ar i) = true := hno.symm.trans hc3
    refine ex ?_
    refine then_e ?_
    refine in_hit rfl ?_
    refine then_n ?_
    refine rg ?_
    refine mv (v := .slice _ _ _) rfl rfl ?_
    refine mv (v := .int .i64 _) rfl rfl ?_
    refine sllX (if c - 128 * i = 128 then 128 * i else 128 * i + 128) (n - 128 * (i + 1)) (c - 128 * (i + 1)) rfl rfl Tryd.underlying30 sz5_1 (by omega) ⟨fun h => by rw [if_pos (by omega)], fun h => by rw [if_neg (by omega)]; omega, by omega, by omega⟩ rfl ?_
    refine mv (v := .int .i64 _) rfl rfl ?_
    refine add rfl rfl (by first | exact w_i64 (by omega) | exact w_i64 (rng_i64 _) | rfl) rfl ?_
    refine asg (v := .slice _ _ _) rfl rfl ?_
    refine asg (v := .int .i64 _) rfl rfl ?_
    refine nl ?_
    refine loop_n ?_
    exact ⟨(i + 1, (if c - 128 * i = 128 then 128 * i else 128 * i + 128), D, cap, l), (by dsimp only; omega), ⟨by omega, fun h => by rw [if_neg (by omega)]; omega, by rw [hl, usedC_free hfr], by omega, O⟩, (fCX (fCX (fCX (fN _)))), agX⟩
   ·have hfr : freeE (entA ar i) = false := hno.symm.trans hc3
    obtain ⟨p, rfl, hp1, hp2⟩ := hso hfr
    replace O := O.new F hp1 hp2; clear hno hso hp2; have H := O.sh
    refine sk ?_
    refine then_n ?_
    refine sq ?_
    refine dr (by kernel_rfl) ?_
    have H := H.drew
    replace O := O.drew
    refine hold (fun _ => True) [] ?_
    refine tk (i := 0) rfl (by kernel_rfl) rfl trivial (fun _ _ => r_mv (v := .pointer _) rfl) ?_
    refine tk (i := 1) rfl (by kernel_rfl) rfl trivial (fun _ _ => r_mv (v := .pointer _) rfl) ?_
    refine tk (i := 2) rfl (by kernel_rfl) rfl trivial (fun _ _ => r_nc rfl) ?_
    refine tk (i := 3) rfl (by kernel_rfl) rfl trivial (fun _ _ => r_fa rfl fo103_2) ?_
    refine tk (i := 5) rfl (by kernel_rfl) rfl trivial (fun _ _ => r_mv (v := .pointer _) rfl) ?_
    refine tk (i := 6) rfl (by kernel_rfl) rfl trivial (fun _ _ => r_nc rfl) ?_
    refine tk (i := 7) rfl (by kernel_rfl) rfl trivial (fun _ _ => r_fa rfl fo103_1) ?_
    refine tk (i := 11) rfl (by kernel_rfl) rfl trivial (fun _ _ => r_mv (v := .int .i64 _) rfl) ?_
    refine tk (i := 12) rfl (by kernel_rfl) rfl trivial (fun _ _ => r_cvi rfl rfl Tryd.underlying28 (by first | exact w_u64 (by omega) | exact w_u64 (rng_u64 _) | exact m_u64 _)) ?_
    refine unfree ?_
    refine holdH H [16] ?_
    refine tk (i := 4) rfl (by kernel_rfl) rfl H (fun w' H => r_ld H rfl sc28 rfl) ?_
    refine tk (i := 8) rfl (by kernel_rfl) rfl H (fun w' H => r_ld H rfl sc28 rfl) ?_
    refine tk (i := 9) rfl (by kernel_rfl) rfl H (fun w' H => r_sub rfl rfl (by first | exact w_u64 (by omega) | exact w_u64 (rng_u64 _) | exact m_u64 _)) ?_
    refine tk (i := 10) rfl (by kernel_rfl) rfl H (fun w' H => r_add rfl rfl (by first | exact w_u64 (by omega) | exact w_u64 (rng_u64 _) | exact m_u64 _)) ?_
    refine tk (i := 13) rfl (by kernel_rfl) rfl H (fun w' H => r_mul rfl rfl (by first | exact w_u64 (by omega) | exact w_u64 (rng_u64 _) | exact m_u64 _)) ?_
    refine fk (i := 14) (by kernel_rfl) rfl rfl rfl ?_
    refine nc rfl rfl ?_
    refine nl ?_
    refine then_n ?_
    refine ⟨H, ?_⟩
    refine tk (i := 15) rfl (by kernel_rfl) rfl H (fun w' H => r_fa rfl fo103_3) ?_
    refine fb (i := 16) (by kernel_rfl) rfl rfl rfl ?_
    refine st (v := .int .u64 _) H rfl rfl sc28 rfl (by show 0 + 3 < 10; decide) (by omega) ?_
    intro w95 H1 F; replace O := O.put F H1.look; clear H H1 F; have H := O.sh
    refine nl ?_
    refine then_n ?_
    refine dn (by kernel_rfl) ?_
    refine then_n ?_
    refine rg ?_
    refine mv (v := .slice _ _ _) rfl rfl ?_
    refine mv (v := .pointer _) rfl rfl ?_
    refine bsl (sz := 1) (out := ?o1) H Tryd.underlying97 ze100 sz100_1 (by decide) ?f1 rfl ?_
    case f1 =>
     refine FS.one (v := .pointer _) rfl rfl rfl (by first | decide | simp) ?_
     exact FS.nil
    intro b2 w4 hb2 H1 F; replace O := O.new F hb2 H1.look; clear H H1 F; have H := O.sh
    refine apO (zs := [.pointer none]) [.pointer (some ⟨p, 0, none⟩)] O rfl rfl Tryd.underlying97 ri100 (by first | rfl | simp) (cells_look H.look) (by simp [Value.oneCell']) (by simp) (by omega) (by unfold maxLen; omega) rfl ?_
    clear O H; intro D9 cp9 w5 O
    replace O := O.drop; have H := O.sh
    refine asg (v := .slice _ _ _) rfl rfl ?_
    refine nl ?_
    refine in_n ?_
    refine then_n ?_
    refine rg ?_
    refine mv (v := .slice _ _ _) rfl rfl ?_
    refine mv (v := .int .i64 _) rfl rfl ?_
    refine sllX (if c - 128 * i = 128 then 128 * i else 128 * i + 128) (n - 128 * (i + 1)) (c - 128 * (i + 1)) rfl rfl Tryd.underlying30 sz5_1 (by omega) ⟨fun h => by rw [if_pos (by omega)], fun h => by rw [if_neg (by omega)]; omega, by omega, by omega⟩ rfl ?_
    refine mv (v := .int .i64 _) rfl rfl ?_
    refine add rfl rfl (by first | exact w_i64 (by omega) | exact w_i64 (rng_i64 _) | rfl) rfl ?_
    refine asg (v := .slice _ _ _) rfl rfl ?_
    refine asg (v := .int .i64 _) rfl rfl ?_
    refine nl ?_
    refine loop_n ?_
    exact ⟨(i + 1, (if c - 128 * i = 128 then 128 * i else 128 * i + 128), D9, cp9, l ++ [(p, entC ((i : Int) + 1) (szE (entA ar i)) (entA ar i))]), (by dsimp only; omega), ⟨by omega, fun h => by rw [if_neg (by omega)]; omega, by rw [List.map_append, hl, usedC_use hfr]; rfl, by simp; omega, by rw [ptrs_snoc, List.length_append]; exact O.perm (perm_snoc (x := (p, entC ((i : Int) + 1) (szE (entA ar i)) (entA ar i))) [])⟩, (fCX (fCX (fCX (fN _)))), agX⟩
  ·refine ex ?_
   refine then_e ?_
   refine loop_e ?_
   refine in_hit rfl ?_
   refine then_n ?_
   refine sq ?_
   refine rg ?_
   refine mv (v := .slice _ _ _) rfl rfl ?_
   refine asg (v := .slice _ _ _) rfl rfl ?_
   refine asg (v := .nilIface) rfl rfl ?_
   refine nl ?_
   refine then_n ?_
   refine rt ?_
   refine fin_r ?_
   obtain rfl : i = m := by omega
   exact ⟨_, _, l, rfl, hl, hll, O⟩
end Go.Proofs.YthcaejaaalkglaaDoor.X
/- Walks of functions, printed by a program of this claim. -/
namespace Go.Proofs.YthcaejaaalkglaaDoor.X
set_option linter.unusedVariables false
set_option linter.unusedSimpArgs false
open Go Go.RowKit
namespace PF
theorem bo124 : buildOK Tryd.prog 124 = true := by kernel_rfl
theorem ca73 : callable Tryd.prog 73 = true := by kernel_rfl
theorem ca74 : callable Tryd.prog 74 = true := by kernel_rfl
theorem ca99 : callable Tryd.prog 99 = true := by kernel_rfl
theorem cc112 : Tryd.prog.concrete 112 = true := by kernel_rfl
theorem fo99_0 : fieldOff Tryd.prog 99 0 = some 0 := by kernel_rfl
theorem fo99_9 : fieldOff Tryd.prog 99 9 = some 9 := by kernel_rfl
theorem me65_ReadAt : ∀ (v : Value) (w : World), (method (Tryd.prog.types.size + Made.depth) 65 v "ReadAt").run Tryd.prog w = .ok (99, v) w := fun v w => by kernel_rfl
theorem pl124_0 : placeOf Tryd.prog 124 0 = some (0, 1) := by kernel_rfl
theorem sc97 : scalarB Tryd.prog 97 = true := by kernel_rfl
theorem ze124 : zeroL Tryd.prog 124 = some [.nilIface] := by kernel_rfl
end PF
open PF
set_option maxRecDepth 100000 in
set_option maxHeartbeats 1000000 in
theorem c_loadE (w : World) (p f : Nat) (bm bd L c : Nat) (ds : List UInt8) (hm : w.cell? ⟨bm, 0, none⟩ = some (.slice (some ⟨bd, 0, none⟩) L c)) (hd : RB w (some ⟨bd, 0, none⟩) L ds) (hL : 512 ≤ L ∧ L ≤ 1000000000) (hLc : L ≤ c) (g : List UInt8) (pr rb ini : Bool) (crc my oth fi la : Int) (hp : w.heap[p]? = some (.cells (tbC none 0 0 512 512 g pr rb 128 128 (f : Int) crc my oth fi la ini).toArray 99 (0, 0))) (hne : p ≠ bm ∧ p ≠ bd) (hf : 512 * f + 16384 ≤ L) : Calls Tryd.prog 58 #[.iface 65 (.pointer (some ⟨bm, 0, none⟩)), .pointer (some ⟨p, 0, none⟩), .int .i64 512, .int .i64 512] w (Ret fun v w' => Fr [p] w w' ∧ ∃ A e, v = .tuple #[.pointer A, e] ∧ Ifc e ∧ isIf e = !(decide (crc = crc32 (pcs ds (512 * f) 16384))) ∧ (crc ≠ crc32 (pcs ds (512 * f) 16384) → ∃ x, e = .iface 112 (.pointer x)) ∧ (crc = crc32 (pcs ds (512 * f) 16384) → A = some ⟨p, 0, none⟩ ∧ ∃ D cap l, l.map Prod.snd = usedC ((pcs ds (512 * f) 16384)) 128 ∧ l.length ≤ 128 ∧ OR 100 1 w [p] w' (⟨p, .cells (tbC D l.length cap 512 512 g pr rb 128 128 (f : Int) crc my oth fi la ini).toArray 99 (0, 0), true⟩ :: ents 103 l) D l.length cap (ptrs l))) := by
 refine enter (fun ρ => .tuple #[ρ 8, ρ 9]) Tryd.func58 rfl rfl rfl (res2 rfl) ?_
 have H := SH.rw1 hp
 have hbm := cell_lt0 hm
 have hbd := hd.lt (by omega)
 have hdl := hd.1
 have hal : (pcs ds (512 * f) 16384).length = 16384 := pcs_len (by omega)
 refine sq ?_
 refine rg ?_
 refine asg (v := .pointer _) rfl rfl ?_
 refine asg (v := .nilIface) rfl rfl ?_
 refine nl ?_
 refine then_n ?_
 refine sq ?_
 refine rg ?_
 refine mv (v := .pointer _) rfl rfl ?_
 refine cl ca73 (c_calcLoc _ p (f : Int) 512 128 128 (cell_at (H.look (b := p))) (cell_at (H.look (b := p))) (cell_at (H.look (b := p))) (cell_at (H.look (b := p))) (by omega) (by decide) ((512 * f : Nat) : Int) 16384 (by omega) rfl (by omega) (by decide)) rfl ?_
 rintro _ w1 ⟨rfl, F⟩
 replace H := H.keep F; clear F
 refine mv (v := .tuple _) rfl rfl ?_
 refine xt rfl rfl rfl ?_
 refine xt rfl rfl rfl ?_
 refine asg (v := .int .i64 _) rfl rfl ?_
 refine asg (v := .int .i64 _) rfl rfl ?_
 refine nl ?_
 refine then_n ?_
 refine sq ?_
 refine rg ?_
 skip
 refine mv (v := .int .i64 _) rfl rfl ?_
 have hsz := H.size
 refine mkB H rfl rfl Tryd.underlying30 mi5 (by omega) (by omega) (by omega) (by omega) rfl ?_
 clear H; intro b1 w2 hb1 H _
 refine asg (v := .slice _ _ _) rfl rfl ?_
 refine nl ?_
 refine then_n ?_
 refine sq ?_
 refine rg ?_
 refine mv (v := .iface _ _) rfl rfl ?_
 refine mv (v := .slice _ _ _) rfl rfl ?_
 refine mv (v := .int .i64 _) rfl rfl ?_
 refine mc rfl me65_ReadAt ca99 (c_readAt _ bm bd b1 L c (512 * f) 0 16384 16384 _ ds (List.replicate 16384 0) (H.fr.cell hm (by simpa using Ne.symm hne.1)) (hd.now H.fr (by simpa using Ne.symm hne.2)) (H.look (b := b1)) ⟨fun h => by simp at hbm; omega, fun h => by omega⟩ (by omega) (by omega) (by decide) (by rw [List.length_replicate]; decide) (by omega)) rfl ?_
 rintro _ w3 ⟨rfl, F, hnew⟩
 replace H := H.put (b := b1) F hnew; clear F hnew
 replace H := sh_cells0 H (congrArg Bs (pAt_all (by rw [hal, List.length_replicate])))
 refine mv (v := .tuple _) rfl rfl ?_
 refine xt rfl rfl rfl ?_
 refine xt rfl rfl rfl ?_
 refine asg (v := .int .i64 _) rfl rfl ?_
 refine asg (v := .nilIface) rfl rfl ?_
 refine nl ?_
 refine then_n ?_
 refine sq ?_
 refine sq ?_
 refine rg ?_
 refine mv (v := .nilIface) rfl rfl ?_
 refine neqI0 rfl Tryd.underlying74 rfl ?_
 refine nl ?_
 refine then_n ?_
 refine cbF rfl rfl ?_
 refine sk ?_
 refine then_n ?_
 refine sq ?_
 refine sq ?_
 refine rg ?_
 refine mv (v := .int .i64 _) rfl rfl ?_
 refine mv (v := .slice _ _ _) rfl rfl ?_
 refine lnS rfl Tryd.underlying30 rfl ?_
 refine neq rfl rfl rfl ?_
 refine nl ?_
 refine then_n ?_
 refine cF rfl (by omega) ?_
 refine sk ?_
 refine then_n ?_
 refine sq ?_
 refine rg ?_
 refine mv (v := .slice _ _ _) rfl rfl ?_
 refine cl ca68 (c_zzCrc _ _ _ _ (pcs ds (512 * f) 16384) (RB.allm (b := b1) H hal) (by decide)) rfl ?_
 rintro _ w4 ⟨rfl, F⟩
 replace H := H.keep F; clear F
 refine asg (v := .int .u32 _) rfl rfl ?_
 refine nl ?_
 refine then_n ?_
 refine sq ?_
 refine sq ?_
 refine rg ?_
 refine mv (v := .pointer _) rfl rfl ?_
 refine nc rfl rfl ?_
 refine fa rfl fo99_9 rfl ?_
 refine ld H rfl sc53 rfl rfl ?_
 refine mv (v := .int .u32 _) rfl rfl ?_
 refine neq rfl rfl rfl ?_
 refine nl ?_
 refine then_n ?_
 refine cd rfl (fun hc3 => ?_) (fun hc3 => ?_)
 ·refine sq ?_
  refine rg ?_
  refine cl ca49 (c_errNew _ _) rfl ?_
  rintro _ w5 ⟨⟨be2, rfl⟩, F⟩
  replace H := H.keep F; clear F
  refine bu (out := ?o1) ze124 bo124 ?f1 rfl ?_
  case f1 =>
   refine FL.one (v := .iface _ _) rfl pl124_0 rfl (by decide) ?_
   exact FL.nil
  refine bx (v := .agg _) H rfl rfl rfl ?_
  clear H; intro b3 w6 hb3 H _
  refine mi (v := .pointer _) rfl cc112 rfl ?_
  refine asg (v := .pointer _) rfl rfl ?_
  refine asg (v := .iface _ _) rfl rfl ?_
  refine nl ?_
  refine then_n ?_
  refine rt ?_
  refine then_r ?_
  refine fin_r ?_
  exact ⟨H.fr, _, _, rfl, .inr ⟨_, _, rfl⟩, by rw [decide_eq_false hc3]; rfl, fun _ => ⟨_, rfl⟩, fun h => absurd h hc3⟩
 ·refine sk ?_
  refine then_n ?_
  refine sq ?_
  refine rg ?_
  refine mv (v := .slice _ _ _) rfl rfl ?_
  refine mv (v := .pointer _) rfl rfl ?_
  refine nc rfl rfl ?_
  refine fa rfl fo99_7 rfl ?_
  refine ld H rfl sc53 rfl rfl ?_
  refine cvi rfl rfl Tryd.underlying3 (by first | exact w_i64 (by omega) | exact w_i64 (rng_i64 _) | rfl) rfl ?_
  refine mv (v := .int .i64 _) rfl rfl ?_
  refine mv (v := .int .i64 _) rfl rfl ?_
  refine cl ca74 (c_readArr _ b1 16384 16384 128 (pcs ds (512 * f) 16384) (RB.allm (b := b1) H hal) (by decide) (by decide) (by decide)) rfl ?_
  rintro _ w7 ⟨D9, cap9, l9, rfl, hl9, hll9, O⟩
  replace O := O.joinN H ents_m
  simp only [List.cons_append, List.nil_append] at O
  have H := O.sh
  refine mv (v := .tuple _) rfl rfl ?_
  refine xt rfl rfl rfl ?_
  refine xt rfl rfl rfl ?_
  refine asg (v := .slice _ _ _) rfl rfl ?_
  refine asg (v := .nilIface) rfl rfl ?_
  refine nl ?_
  refine then_n ?_
  refine sq ?_
  refine sq ?_
  refine rg ?_
  refine mv (v := .nilIface) rfl rfl ?_
  refine neqI0 rfl Tryd.underlying74 rfl ?_
  refine nl ?_
  refine then_n ?_
  refine cbF rfl rfl ?_
  refine sk ?_
  refine then_n ?_
  refine sq ?_
  refine rg ?_
  refine mv (v := .pointer _) rfl rfl ?_
  refine mv (v := .slice _ _ _) rfl rfl ?_
  refine nc rfl rfl ?_
  refine fa rfl fo99_0 rfl ?_
  refine st (v := .slice _ _ _) H rfl rfl sc97 rfl (by show 0 + 0 < 15; decide) (by omega) ?_
  intro w95 H1 F; replace O := O.put F H1.look; clear H H1 F; have H := O.sh
  refine nl ?_
  refine then_n ?_
  refine sq ?_
  refine rg ?_
  refine mv (v := .pointer _) rfl rfl ?_
  refine asg (v := .pointer _) rfl rfl ?_
  refine asg (v := .nilIface) rfl rfl ?_
  refine nl ?_
  refine then_n ?_
  refine rt ?_
  refine fin_r ?_
  have hcc : crc = crc32 (pcs ds (512 * f) 16384) := Classical.not_not.1 hc3
  exact ⟨H.fr, _, _, rfl, .inl rfl, by rw [decide_eq_true hcc]; rfl, fun h => absurd hcc h, fun _ => ⟨rfl, D9, cap9, l9, hl9, hll9, O.sub (List.Sublist.cons _ (List.Sublist.refl _))⟩⟩
end Go.Proofs.YthcaejaaalkglaaDoor.X
/- Walks of functions, printed by a program of this claim. -/
namespace Go.Proofs.YthcaejaaalkglaaDoor.X
set_option linter.unusedVariables false
set_option linter.unusedSimpArgs false
open Go Go.RowKit
namespace PF
theorem ca57 : callable Tryd.prog 57 = true := by kernel_rfl
theorem ca58 : callable Tryd.prog 58 = true := by kernel_rfl
end PF
open PF
set_option maxRecDepth 100000 in
set_option maxHeartbeats 1000000 in
theorem c_readPrim (w : World) (bm bd L c : Nat) (ds : List UInt8) (hm : w.cell? ⟨bm, 0, none⟩ = some (.slice (some ⟨bd, 0, none⟩) L c)) (hd : RB w (some ⟨bd, 0, none⟩) L ds) (hL : 512 ≤ L ∧ L ≤ 1000000000) (hLc : L ≤ c) (hL2 : 17408 ≤ L) (hcan : hdrGood ds 512 = true → fld ds 584 8 = 2 ∧ fld ds 592 4 = 128 ∧ fld ds 596 4 = 128) : Calls Tryd.prog 52 #[.iface 65 (.pointer (some ⟨bm, 0, none⟩)), .int .i64 512, .int .i64 512] w (Ret fun v w' => Fr [] w w' ∧ ∃ A e, v = .tuple #[.pointer A, e] ∧ Ifc e ∧ isIf e = !((hdrGood ds 512 && decide (fld ds 600 4 = crc32 (pcs ds 1024 16384)))) ∧ ((hdrGood ds 512 && decide (fld ds 600 4 = crc32 (pcs ds 1024 16384))) = false → ∃ x, e = .iface 112 (.pointer x)) ∧ ((hdrGood ds 512 && decide (fld ds 600 4 = crc32 (pcs ds 1024 16384))) = true → ∃ p, A = some ⟨p, 0, none⟩ ∧ ∃ D cap l, l.map Prod.snd = usedC (pcs ds 1024 16384) 128 ∧ l.length ≤ 128 ∧ OR 100 1 w [] w' (⟨p, .cells (tbC D l.length cap 512 512 (gT (pcs ds 568 16)) (protB (pcs ds 0 512) (fld ds 544 8 % 4294967296)) false 128 128 2 (fld ds (600) 4) (fld ds (536) 8) (fld ds (544) 8) (fld ds (552) 8) (fld ds (560) 8) true).toArray 99 (0, 0), true⟩ :: ents 103 l) D l.length cap (ptrs l))) := by
 refine enter (fun ρ => .tuple #[ρ 6, ρ 7]) Tryd.func52 rfl rfl rfl (res2 rfl) ?_
 have H := SH.nil w
 have hbm := cell_lt0 hm
 have hbd := hd.lt (by omega)
 have hdl := hd.1
 have hbl : (pcs ds 0 1024).length = 1024 := pcs_len (by omega)
 refine sq ?_
 refine rg ?_
 refine asg (v := .pointer _) rfl rfl ?_
 refine asg (v := .nilIface) rfl rfl ?_
 refine nl ?_
 refine then_n ?_
 refine sq ?_
 refine rg ?_
 refine mv (v := .int .i64 _) rfl rfl ?_
 refine mul (c := 1024) rfl rfl rfl rfl ?_
 have hsz := H.size
 refine mkB H rfl rfl Tryd.underlying30 mi5 (by omega) (by omega) (by omega) (by omega) rfl ?_
 clear H; intro b1 w1 hb1 H _
 refine asg (v := .slice _ _ _) rfl rfl ?_
 refine nl ?_
 refine then_n ?_
 refine sq ?_
 refine rg ?_
 refine mv (v := .iface _ _) rfl rfl ?_
 refine mv (v := .slice _ _ _) rfl rfl ?_
 refine mc rfl me65_ReadAt ca99 (c_readAt _ bm bd b1 L c 0 0 1024 1024 _ ds (List.replicate 1024 0) (H.fr.cell hm (by simp)) (hd.keep H.fr) (H.look (b := b1)) ⟨fun h => by simp at hbm; omega, fun h => by omega⟩ (by omega) (by omega) (by decide) (by rw [List.length_replicate]; decide) (by omega)) rfl ?_
 rintro _ w2 ⟨rfl, F, hnew⟩
 replace H := H.put (b := b1) F hnew; clear F hnew
 replace H := sh_cells0 H (congrArg Bs (pAt_all (by rw [hbl, List.length_replicate])))
 refine mv (v := .tuple _) rfl rfl ?_
 refine xt rfl rfl rfl ?_
 refine xt rfl rfl rfl ?_
 refine asg (v := .int .i64 _) rfl rfl ?_
 refine asg (v := .nilIface) rfl rfl ?_
 refine nl ?_
 refine then_n ?_
 refine sq ?_
 refine sq ?_
 refine rg ?_
 refine mv (v := .nilIface) rfl rfl ?_
 refine neqI0 rfl Tryd.underlying74 rfl ?_
 refine nl ?_
 refine then_n ?_
 refine cbF rfl rfl ?_
 refine sk ?_
 refine then_n ?_
 refine sq ?_
 refine sq ?_
 refine rg ?_
 refine mv (v := .int .i64 _) rfl rfl ?_
 refine mv (v := .slice _ _ _) rfl rfl ?_
 refine lnS rfl Tryd.underlying30 rfl ?_
 refine neq rfl rfl rfl ?_
 refine nl ?_
 refine then_n ?_
 refine cbF rfl rfl ?_
 refine sk ?_
 refine then_n ?_
 refine sq ?_
 refine rg ?_
 refine mv (v := .slice _ _ _) rfl rfl ?_
 refine mv (v := .int .i64 _) rfl rfl ?_
 refine mv (v := .int .i64 _) rfl rfl ?_
 refine cl ca57 (c_tabFrom _ b1 1024 1024 _ (pcs ds 0 1024) (H.look (b := b1)) (by decide) (by decide) (by omega) (by omega)) rfl ?_
 rintro _ w3 ⟨F, hnew, A9, e9, rfl, hie, hif, hok⟩
 obtain ⟨H9, hlt⟩ := H.put2 F hnew
 clear H F hnew; have H := H9; clear H9
 refine mv (v := .tuple _) rfl rfl ?_
 refine xt rfl rfl rfl ?_
 refine xt rfl rfl rfl ?_
 refine asg (v := .pointer _) rfl rfl ?_
 refine asg rfl rfl ?_
 refine nl ?_
 refine then_n ?_
 refine sq ?_
 refine sq ?_
 refine rg ?_
 refine mv rfl rfl ?_
 refine neqIG rfl Tryd.underlying74 (by assumption) rfl ?_
 refine nl ?_
 refine then_n ?_
 refine cn rfl (fun hc3 => ?_) (fun hc3 => ?_)
 ·have hgd : hdrGood ds 512 = false := by have h9 := hif.symm.trans hc3; rw [hdr0] at h9; simpa using h9
  refine sq ?_
  refine rg ?_
  refine cl ca49 (c_errNew _ _) rfl ?_
  rintro _ w4 ⟨⟨be2, rfl⟩, F⟩
  replace H := H.keep F; clear F
  refine bu (out := ?o1) ze124 bo124 ?f1 rfl ?_
  case f1 =>
   refine FL.one (v := .iface _ _) rfl pl124_0 rfl (by decide) ?_
   exact FL.nil
  refine bx (v := .agg _) H rfl rfl rfl ?_
  clear H; intro b3 w5 hb3 H _
  refine mi (v := .pointer _) rfl cc112 rfl ?_
  refine asg (v := .pointer _) rfl rfl ?_
  refine asg (v := .iface _ _) rfl rfl ?_
  refine nl ?_
  refine then_n ?_
  refine rt ?_
  refine then_r ?_
  refine fin_r ?_
  exact ⟨H.fr, _, _, rfl, .inr ⟨_, _, rfl⟩, by rw [hgd]; rfl, fun _ => ⟨_, rfl⟩, fun h => by rw [hgd] at h; cases h⟩
 ·have hgd : hdrGood ds 512 = true := by have h9 := hif.symm.trans hc3; rw [hdr0] at h9; simpa using h9
  obtain ⟨p, rfl, hp1, hp2⟩ := hok (by rw [hdr0]; exact hgd)
  obtain ⟨k1, k2, k3⟩ := hcan hgd
  simp only [pcs0 (show 568 + 16 ≤ 1024 by decide), pcs0 (show 0 + 512 ≤ 1024 by decide), fld0 (show 544 + 8 ≤ 1024 by decide), fld0 (show 592 + 4 ≤ 1024 by decide), fld0 (show 596 + 4 ≤ 1024 by decide), fld0 (show 584 + 8 ≤ 1024 by decide), fld0 (show 600 + 4 ≤ 1024 by decide), fld0 (show 536 + 8 ≤ 1024 by decide), fld0 (show 552 + 8 ≤ 1024 by decide), fld0 (show 560 + 8 ≤ 1024 by decide), k1, k2, k3] at hp2
  replace H := H.add hlt hp1 hp2; clear hp2
  refine sk ?_
  refine then_n ?_
  refine sq ?_
  refine rg ?_
  refine mv (v := .iface _ _) rfl rfl ?_
  refine mv (v := .pointer _) rfl rfl ?_
  refine mv (v := .int .i64 _) rfl rfl ?_
  refine mv (v := .int .i64 _) rfl rfl ?_
  refine cl ca58 (c_loadE _ p 2 bm bd L c ds (H.fr.cell hm (by simp)) (hd.keep H.fr) hL hLc _ _ _ _ _ _ _ _ _ (H.look (b := p)) ⟨fun h => by simp at hbm; have := hlt.2; omega, fun h => by have := hlt.2; omega⟩ (by omega)) rfl ?_
  rintro _ w6 ⟨F, A10, e10, rfl, hie2, hif2, hce, hok2⟩
  refine xt rfl rfl rfl ?_
  refine xt rfl rfl rfl ?_
  refine asg (v := .pointer _) rfl rfl ?_
  refine asg rfl rfl ?_
  refine nl ?_
  refine then_n ?_
  refine rt ?_
  refine fin_r ?_
  have hge : w.heap.size ≤ p := Nat.le_trans hlt.2 hp1
  refine ⟨H.fr.then F (by simpa using hge), A10, e10, rfl, hie2, ?_, ?_, ?_⟩
  ·rw [hgd, Bool.true_and]; exact hif2
  ·rw [hgd, Bool.true_and]; exact fun h => hce (of_decide_eq_false h)
  ·rw [hgd, Bool.true_and]
   intro h
   obtain ⟨rfl, D, cap, l, h1, h2, O⟩ := hok2 (of_decide_eq_true h)
   exact ⟨p, rfl, D, cap, l, h1, h2, O.under H.fr hge⟩
end Go.Proofs.YthcaejaaalkglaaDoor.X
/- Walks of functions, printed by a program of this claim. -/
namespace Go.Proofs.YthcaejaaalkglaaDoor.X
set_option linter.unusedVariables false
set_option linter.unusedSimpArgs false
open Go Go.RowKit
namespace PF
theorem ca100 : callable Tryd.prog 100 = true := by kernel_rfl
theorem fo94_1 : fieldOff Tryd.prog 94 1 = some 1 := by kernel_rfl
theorem fo99_10 : fieldOff Tryd.prog 99 10 = some 10 := by kernel_rfl
theorem me65_Seek : ∀ (v : Value) (w : World), (method (Tryd.prog.types.size + Made.depth) 65 v "Seek").run Tryd.prog w = .ok (100, v) w := fun v w => by kernel_rfl
theorem sc2 : scalarB Tryd.prog 2 = true := by kernel_rfl
end PF
open PF
set_option maxRecDepth 100000 in
set_option maxHeartbeats 1000000 in
theorem c_seek (w : World) (bm bd L c : Nat) (x1 x2 x3 : Value) (hb : w.heap[bm]? = some (.cells [.slice (some ⟨bd, 0, none⟩) L c, x1, x2, x3].toArray 94 (0, 0))) (hL : L ≤ 1000000000) : Calls Tryd.prog 100 #[.pointer (some ⟨bm, 0, none⟩), .int .i64 0, .int .i64 2] w (Ret fun v w' => v = .tuple #[.int .i64 (L : Int), .nilIface] ∧ Fr [bm] w w' ∧ w'.heap[bm]? = some (.cells [.slice (some ⟨bd, 0, none⟩) L c, .int .i64 (L : Int), x2, x3].toArray 94 (0, 0))) := by
 refine enter (fun ρ => .tuple #[ρ 6, ρ 7]) Tryd.func100 rfl rfl rfl (res2 rfl) ?_
 have H := SH.rw1 hb
 refine sq ?_
 refine rg ?_
 refine asg (v := .int .i64 _) rfl rfl ?_
 refine asg (v := .nilIface) rfl rfl ?_
 refine nl ?_
 refine then_n ?_
 refine sq ?_
 refine sq ?_
 refine rg ?_
 refine mv (v := .int .i64 _) rfl rfl ?_
 refine nl ?_
 refine then_n ?_
 refine bk ?_
 refine sq ?_
 refine rg ?_
 refine eql rfl rfl rfl ?_
 refine asg (v := .bool _) rfl rfl ?_
 refine nl ?_
 refine then_n ?_
 refine cF rfl (by decide) ?_
 refine sq ?_
 refine rg ?_
 refine eql rfl rfl rfl ?_
 refine asg (v := .bool _) rfl rfl ?_
 refine nl ?_
 refine then_n ?_
 refine cT rfl (by decide) ?_
 refine rg ?_
 refine mv (v := .int .i64 _) rfl rfl ?_
 refine mv (v := .pointer _) rfl rfl ?_
 refine nc rfl rfl ?_
 refine fa rfl fo94_0 rfl ?_
 refine ld H rfl sc30 rfl rfl ?_
 refine lnS rfl Tryd.underlying30 rfl ?_
 refine add rfl rfl (by first | exact w_i64 (by omega) | exact w_i64 (rng_i64 _) | rfl) rfl ?_
 refine asg (v := .int .i64 _) rfl rfl ?_
 refine nl ?_
 refine in_n ?_
 refine then_n ?_
 refine sq ?_
 refine sq ?_
 refine rg ?_
 refine mv (v := .int .i64 _) rfl rfl ?_
 refine lss rfl rfl rfl ?_
 refine nl ?_
 refine then_n ?_
 refine cF rfl (by omega) ?_
 refine sk ?_
 refine then_n ?_
 refine sq ?_
 refine rg ?_
 refine mv (v := .pointer _) rfl rfl ?_
 refine mv (v := .int .i64 _) rfl rfl ?_
 refine nc rfl rfl ?_
 refine fa rfl fo94_1 rfl ?_
 refine st (v := .int .i64 _) H rfl rfl sc2 rfl (by first | decide | (simp only [List.length_set, List.length_cons, List.length_nil, List.length_replicate, List.length_append, Bs_length]; omega) | omega) (by omega) ?_
 clear H; intro w1 H _
 refine nl ?_
 refine then_n ?_
 refine sq ?_
 refine rg ?_
 refine mv (v := .int .i64 _) rfl rfl ?_
 refine asg (v := .int .i64 _) rfl rfl ?_
 refine asg (v := .nilIface) rfl rfl ?_
 refine nl ?_
 refine then_n ?_
 refine rt ?_
 refine fin_r ?_
 refine ⟨?_, H.fr, ?_⟩
 ·exact congrArg (fun z => Value.tuple #[.int .i64 z, .nilIface]) (by omega)
 ·exact H.look.trans (congrArg (fun z => some (Obj.cells [.slice (some ⟨bd, 0, none⟩) L c, .int .i64 z, x2, x3].toArray 94 (0, 0))) (by omega))
set_option maxRecDepth 100000 in
set_option maxHeartbeats 1000000 in
theorem c_seekSize (w : World) (bm bd L c : Nat) (x1 x2 x3 : Value) (hb : w.heap[bm]? = some (.cells [.slice (some ⟨bd, 0, none⟩) L c, x1, x2, x3].toArray 94 (0, 0))) (hL : L ≤ 1000000000) : Calls Tryd.prog 53 #[.iface 65 (.pointer (some ⟨bm, 0, none⟩))] w (Ret fun v w' => v = .tuple #[.int .i64 (L : Int), .nilIface] ∧ Fr [bm] w w' ∧ w'.heap[bm]? = some (.cells [.slice (some ⟨bd, 0, none⟩) L c, .int .i64 (L : Int), x2, x3].toArray 94 (0, 0))) := by
 refine enter (fun ρ => .tuple #[ρ 2, ρ 3]) Tryd.func53 rfl rfl rfl (res2 rfl) ?_
 have H := SH.rw1 hb
 refine sq ?_
 refine rg ?_
 refine asg (v := .int .i64 _) rfl rfl ?_
 refine asg (v := .nilIface) rfl rfl ?_
 refine nl ?_
 refine then_n ?_
 refine sq ?_
 refine rg ?_
 refine mv (v := .iface _ _) rfl rfl ?_
 refine mc rfl me65_Seek ca100 (c_seek _ bm bd L c x1 x2 x3 (H.look (b := bm)) hL) rfl ?_
 rintro _ w1 ⟨rfl, F, hnew⟩
 replace H := H.put (b := bm) F hnew; clear F hnew
 refine xt rfl rfl rfl ?_
 refine xt rfl rfl rfl ?_
 refine asg (v := .int .i64 _) rfl rfl ?_
 refine asg (v := .nilIface) rfl rfl ?_
 refine nl ?_
 refine then_n ?_
 refine rt ?_
 refine fin_r ?_
 exact ⟨rfl, H.fr, H.look⟩
set_option maxRecDepth 100000 in
set_option maxHeartbeats 1000000 in
theorem c_readBack (w : World) (b f : Nat) (bm bd L c : Nat) (ds : List UInt8) (hm : w.cell? ⟨bm, 0, none⟩ = some (.slice (some ⟨bd, 0, none⟩) L c)) (hd : RB w (some ⟨bd, 0, none⟩) L ds) (hL : 512 ≤ L ∧ L ≤ 1000000000) (hLc : L ≤ c) (hb : 512 * b + 512 ≤ L) (hf : 512 * f + 16384 ≤ L) (hcan : hdrGood ds (512 * b) = true → fld ds (512 * b + 72) 8 = (f : Int) ∧ fld ds (512 * b + 80) 4 = 128 ∧ fld ds (512 * b + 84) 4 = 128) : Calls Tryd.prog 54 #[.iface 65 (.pointer (some ⟨bm, 0, none⟩)), .int .i64 512, .int .i64 512, .int .u64 (b : Int)] w (Ret fun v w' => Fr [] w w' ∧ ∃ A e, v = .tuple #[.pointer A, e] ∧ Ifc e ∧ isIf e = !((hdrGood ds (512 * b) && decide (fld ds (512 * b + 24) 8 = (b : Int)) && decide (fld ds (512 * b + 88) 4 = crc32 (pcs ds (512 * f) 16384)))) ∧ ((hdrGood ds (512 * b) && decide (fld ds (512 * b + 24) 8 = (b : Int)) && decide (fld ds (512 * b + 88) 4 = crc32 (pcs ds (512 * f) 16384))) = true → ∃ p, A = some ⟨p, 0, none⟩ ∧ ∃ D cap l, l.map Prod.snd = usedC (pcs ds (512 * f) 16384) 128 ∧ l.length ≤ 128 ∧ OR 100 1 w [] w' (⟨p, .cells (tbC D l.length cap 512 512 (gT (pcs ds (512 * b + 56) 16)) (protB (pcs ds 0 512) ((fld ds (512 * b + 24) 8) % 4294967296)) false 128 128 f (fld ds (512 * b + 88) 4) (fld ds (512 * b + 32) 8) (fld ds (512 * b + 24) 8) (fld ds (512 * b + 40) 8) (fld ds (512 * b + 48) 8) true).toArray 99 (0, 0), true⟩ :: ents 103 l) D l.length cap (ptrs l))) := by
 refine enter (fun ρ => .tuple #[ρ 8, ρ 9]) Tryd.func54 rfl rfl rfl (res2 rfl) ?_
 have H := SH.nil w
 have hbm := cell_lt0 hm
 have hbd := hd.lt (by omega)
 have hdl := hd.1
 have hbl : (pcs ds (512 * b) 512).length = 512 := pcs_len (by omega)
 have hbl0 : (pcs ds 0 512).length = 512 := pcs_len (by omega)
 refine sq ?_
 refine rg ?_
 refine asg (v := .pointer _) rfl rfl ?_
 refine asg (v := .nilIface) rfl rfl ?_
 refine nl ?_
 refine then_n ?_
 refine sq ?_
 refine rg ?_
 refine mv (v := .int .i64 _) rfl rfl ?_
 refine mkB H rfl rfl Tryd.underlying30 mi5 (by omega) (by omega) (by omega) (by omega) rfl ?_
 clear H; intro b1 w1 hb1 H _
 have hsz := H.size
 refine asg (v := .slice _ _ _) rfl rfl ?_
 refine nl ?_
 refine then_n ?_
 refine sq ?_
 refine rg ?_
 refine mv (v := .int .u64 _) rfl rfl ?_
 refine cvi rfl rfl Tryd.underlying2 (by first | exact w_i64 (by omega) | exact w_i64 (rng_i64 _) | rfl) rfl ?_
 refine mv (v := .int .i64 _) rfl rfl ?_
 refine mul (c := ((512 * b : Nat) : Int)) rfl rfl (by rw [w_i64 (by omega)]; omega) rfl ?_
 refine asg (v := .int .i64 _) rfl rfl ?_
 refine nl ?_
 refine then_n ?_
 refine sq ?_
 refine rg ?_
 refine mv (v := .iface _ _) rfl rfl ?_
 refine mv (v := .slice _ _ _) rfl rfl ?_
 refine mv (v := .int .i64 _) rfl rfl ?_
 refine mc rfl me65_ReadAt ca99 (c_readAt _ bm bd b1 L c (512 * b) 0 512 512 _ ds (List.replicate 512 0) (H.fr.cell hm (by simp)) (hd.keep H.fr) (H.look (b := b1)) ⟨fun h => by simp at hbm; omega, fun h => by omega⟩ (by omega) (by omega) (by decide) (by rw [List.length_replicate]; decide) (by omega)) rfl ?_
 rintro _ w2 ⟨rfl, F, hnew⟩
 replace H := H.put (b := b1) F hnew; clear F hnew
 replace H := sh_cells0 H (congrArg Bs (pAt_all (by rw [hbl, List.length_replicate])))
 refine mv (v := .tuple _) rfl rfl ?_
 refine xt rfl rfl rfl ?_
 refine xt rfl rfl rfl ?_
 refine asg (v := .int .i64 _) rfl rfl ?_
 refine asg (v := .nilIface) rfl rfl ?_
 refine nl ?_
 refine then_n ?_
 refine sq ?_
 refine sq ?_
 refine rg ?_
 refine mv (v := .nilIface) rfl rfl ?_
 refine neqI0 rfl Tryd.underlying74 rfl ?_
 refine nl ?_
 refine then_n ?_
 refine cbF rfl rfl ?_
 refine sk ?_
 refine then_n ?_
 refine sq ?_
 refine sq ?_
 refine rg ?_
 refine mv (v := .int .i64 _) rfl rfl ?_
 refine mv (v := .slice _ _ _) rfl rfl ?_
 refine lnS rfl Tryd.underlying30 rfl ?_
 refine neq rfl rfl rfl ?_
 refine nl ?_
 refine then_n ?_
 refine cbF rfl rfl ?_
 refine sk ?_
 refine then_n ?_
 refine sq ?_
 refine rg ?_
 refine mv (v := .slice _ _ _) rfl rfl ?_
 refine cl ca55 (c_readHdr _ b1 0 512 512 _ (pcs ds (512 * b) 512) (H.look (b := b1)) (by decide) (by decide) (by omega) (by omega)) rfl ?_
 rintro _ w3 ⟨F, hnew, hres⟩
 obtain ⟨A9, e9, rfl, hie, hif, hok⟩ := two_res hres
 obtain ⟨H9, hlt⟩ := H.put2 F hnew
 clear H hres F hnew; have H := H9; clear H9
 refine mv (v := .tuple _) rfl rfl ?_
 refine xt rfl rfl rfl ?_
 refine xt rfl rfl rfl ?_
 refine asg (v := .pointer _) rfl rfl ?_
 refine asg rfl rfl ?_
 refine nl ?_
 refine then_n ?_
 refine sq ?_
 refine sq ?_
 refine rg ?_
 refine mv rfl rfl ?_
 refine neqIG rfl Tryd.underlying74 (by assumption) rfl ?_
 refine nl ?_
 refine then_n ?_
 refine cn rfl (fun hc3 => ?_) (fun hc3 => ?_)
 ·have hgd : hdrGood ds (512 * b) = false := by have h9 := hif.symm.trans hc3; rw [hdrA] at h9; simpa using h9
  refine sq ?_
  refine rg ?_
  refine cl ca49 (c_errNew _ _) rfl ?_
  rintro _ w4 ⟨⟨be2, rfl⟩, F⟩
  replace H := H.keep F; clear F
  refine asg (v := .pointer _) rfl rfl ?_
  refine asg (v := .iface _ _) rfl rfl ?_
  refine nl ?_
  refine then_n ?_
  refine rt ?_
  refine then_r ?_
  refine fin_r ?_
  exact ⟨H.fr, _, _, rfl, .inr ⟨_, _, rfl⟩, by rw [hgd]; rfl, fun h => by rw [hgd] at h; cases h⟩
 ·have hgd : hdrGood ds (512 * b) = true := by have h9 := hif.symm.trans hc3; rw [hdrA] at h9; simpa using h9
  obtain ⟨p, rfl, hp1, hp2⟩ := hok (by rw [hdrA]; exact hgd)
  obtain ⟨k1, k2, k3⟩ := hcan hgd
  simp only [Nat.zero_add, pcsA (show 56 + 16 ≤ 512 by decide), fldA (show 24 + 8 ≤ 512 by decide), fldA (show 32 + 8 ≤ 512 by decide), fldA (show 40 + 8 ≤ 512 by decide), fldA (show 48 + 8 ≤ 512 by decide), fldA (show 72 + 8 ≤ 512 by decide), fldA (show 80 + 4 ≤ 512 by decide), fldA (show 84 + 4 ≤ 512 by decide), fldA (show 88 + 4 ≤ 512 by decide), k1, k2, k3] at hp2
  replace H := H.add hlt hp1 hp2; clear hp2
  refine sk ?_
  refine then_n ?_
  refine sq ?_
  refine sq ?_
  refine rg ?_
  refine mv (v := .pointer _) rfl rfl ?_
  refine nc rfl rfl ?_
  refine fa rfl fo99_10 rfl ?_
  refine ld H rfl sc28 rfl rfl ?_
  refine mv (v := .int .u64 _) rfl rfl ?_
  refine neq rfl rfl rfl ?_
  refine nl ?_
  refine then_n ?_
  refine cd rfl (fun hc4 => ?_) (fun hc4 => ?_)
  ·refine sq ?_
   refine rg ?_
   refine cl ca49 (c_errNew _ _) rfl ?_
   rintro _ w5 ⟨⟨be3, rfl⟩, F⟩
   replace H := H.keep F; clear F
   refine asg (v := .pointer _) rfl rfl ?_
   refine asg (v := .iface _ _) rfl rfl ?_
   refine nl ?_
   refine then_n ?_
   refine rt ?_
   refine then_r ?_
   refine fin_r ?_
   have hq : (hdrGood ds (512 * b) && decide (fld ds (512 * b + 24) 8 = (b : Int)) && decide (fld ds (512 * b + 88) 4 = crc32 (pcs ds (512 * f) 16384))) = false := by rw [hgd, decide_eq_false hc4]; rfl
   exact ⟨H.fr, _, _, rfl, .inr ⟨_, _, rfl⟩, by rw [hq]; rfl, fun h => by rw [hq] at h; cases h⟩
  ·refine sk ?_
   refine then_n ?_
   refine sq ?_
   refine dr (by kernel_rfl) ?_
   have H := H.drew
   refine hold (fun _ => True) [] ?_
   refine tk (i := 0) rfl (by kernel_rfl) rfl trivial (fun _ _ => r_mv (v := .pointer _) rfl) ?_
   refine tk (i := 1) rfl (by kernel_rfl) rfl trivial (fun _ _ => r_mv (v := .pointer _) rfl) ?_
   refine tk (i := 2) rfl (by kernel_rfl) rfl trivial (fun _ _ => r_mv (v := .pointer _) rfl) ?_
   refine tk (i := 3) rfl (by kernel_rfl) rfl trivial (fun _ _ => r_nc rfl) ?_
   refine tk (i := 4) rfl (by kernel_rfl) rfl trivial (fun _ _ => r_fa rfl fo99_11) ?_
   refine tk (i := 6) rfl (by kernel_rfl) rfl trivial (fun _ _ => r_mv (v := .pointer _) rfl) ?_
   refine tk (i := 7) rfl (by kernel_rfl) rfl trivial (fun _ _ => r_nc rfl) ?_
   refine tk (i := 8) rfl (by kernel_rfl) rfl trivial (fun _ _ => r_fa rfl fo99_10) ?_
   refine unfree ?_
   refine holdH H [12, 15] ?_
   refine tk (i := 5) rfl (by kernel_rfl) rfl H (fun w' H => r_ld H rfl sc28 rfl) ?_
   refine tk (i := 9) rfl (by kernel_rfl) rfl H (fun w' H => r_ld H rfl sc28 rfl) ?_
   refine fk (i := 10) (by kernel_rfl) rfl rfl rfl ?_
   refine nc rfl rfl ?_
   refine nl ?_
   refine then_n ?_
   refine ⟨H, ?_⟩
   refine tk (i := 11) rfl (by kernel_rfl) rfl H (fun w' H => r_fa rfl fo99_10) ?_
   refine fb (i := 12) (by kernel_rfl) rfl rfl rfl ?_
   refine st (v := .int .u64 _) H rfl rfl sc28 rfl (by first | decide | (simp only [List.length_set, List.length_cons, List.length_nil, List.length_replicate, List.length_append, Bs_length]; omega) | omega) (by omega) ?_
   clear H; intro w6 H _
   refine nl ?_
   refine then_n ?_
   refine fo (i := 13) (by kernel_rfl) rfl rfl ?_
   refine nc rfl rfl ?_
   refine nl ?_
   refine then_n ?_
   refine holdH H [15] ?_
   refine tk (i := 14) rfl (by kernel_rfl) rfl H (fun w' H => r_fa rfl fo99_11) ?_
   refine fb (i := 15) (by kernel_rfl) rfl rfl rfl ?_
   refine st (v := .int .u64 _) H rfl rfl sc28 rfl (by first | decide | (simp only [List.length_set, List.length_cons, List.length_nil, List.length_replicate, List.length_append, Bs_length]; omega) | omega) (by omega) ?_
   clear H; intro w7 H _
   refine nl ?_
   refine then_n ?_
   refine dn (by kernel_rfl) ?_
   refine then_n ?_
   refine sq ?_
   refine rg ?_
   refine mv (v := .pointer _) rfl rfl ?_
   refine mv (v := .int .i64 _) rfl rfl ?_
   refine nc rfl rfl ?_
   refine fa rfl fo99_1 rfl ?_
   refine st (v := .int .i64 _) H rfl rfl sc3 rfl (by first | decide | (simp only [List.length_set, List.length_cons, List.length_nil, List.length_replicate, List.length_append, Bs_length]; omega) | omega) (by omega) ?_
   clear H; intro w8 H _
   refine nl ?_
   refine then_n ?_
   refine sq ?_
   refine rg ?_
   refine mv (v := .pointer _) rfl rfl ?_
   refine mv (v := .int .i64 _) rfl rfl ?_
   refine nc rfl rfl ?_
   refine fa rfl fo99_2 rfl ?_
   refine st (v := .int .i64 _) H rfl rfl sc3 rfl (by first | decide | (simp only [List.length_set, List.length_cons, List.length_nil, List.length_replicate, List.length_append, Bs_length]; omega) | omega) (by omega) ?_
   clear H; intro w9 H _
   refine nl ?_
   refine then_n ?_
   refine sq ?_
   refine rg ?_
   refine mv (v := .pointer _) rfl rfl ?_
   refine nc rfl rfl ?_
   refine fa rfl fo99_14 rfl ?_
   refine st (v := .bool _) H rfl rfl sc4 rfl (by first | decide | (simp only [List.length_set, List.length_cons, List.length_nil, List.length_replicate, List.length_append, Bs_length]; omega) | omega) (by omega) ?_
   clear H; intro w10 H _
   refine nl ?_
   refine then_n ?_
   refine sq ?_
   refine rg ?_
   refine mv (v := .int .i64 _) rfl rfl ?_
   have hsz2 := H.size
   refine mkB H rfl rfl Tryd.underlying30 mi5 (by omega) (by omega) (by omega) (by omega) rfl ?_
   clear H; intro b4 w11 hb4 H _
   refine asg (v := .slice _ _ _) rfl rfl ?_
   refine nl ?_
   refine then_n ?_
   refine sq ?_
   refine rg ?_
   refine mv (v := .iface _ _) rfl rfl ?_
   refine mv (v := .slice _ _ _) rfl rfl ?_
   refine mc rfl me65_ReadAt ca99 (c_readAt _ bm bd b4 L c 0 0 512 512 _ ds (List.replicate 512 0) (H.fr.cell hm (by simp)) (hd.keep H.fr) (H.look (b := b4)) ⟨fun h => by simp at hbm; omega, fun h => by omega⟩ (by omega) (by omega) (by decide) (by rw [List.length_replicate]; decide) (by omega)) rfl ?_
   rintro _ w12 ⟨rfl, F, hnew⟩
   replace H := H.put (b := b4) F hnew; clear F hnew
   replace H := sh_cells0 H (congrArg Bs (pAt_all (by rw [hbl0, List.length_replicate])))
   refine mv (v := .tuple _) rfl rfl ?_
   refine xt rfl rfl rfl ?_
   refine xt rfl rfl rfl ?_
   refine asg (v := .int .i64 _) rfl rfl ?_
   refine asg (v := .nilIface) rfl rfl ?_
   refine nl ?_
   refine then_n ?_
   refine sq ?_
   refine sq ?_
   refine rg ?_
   refine mv (v := .nilIface) rfl rfl ?_
   refine eqlI0 rfl Tryd.underlying74 rfl ?_
   refine mv (v := .bool _) rfl rfl ?_
   refine spL (t := 87) (b := true) rfl ?_
   refine gy rfl ?_
   refine mv (v := .int .i64 _) rfl rfl ?_
   refine gy rfl ?_
   refine mv (v := .slice _ _ _) rfl rfl ?_
   refine gy rfl ?_
   refine lnS rfl Tryd.underlying30 rfl ?_
   refine gy rfl ?_
   refine eql rfl rfl rfl ?_
   refine pkT (v := .bool _) rfl rfl rfl ?_
   refine nl ?_
   refine then_n ?_
   refine cT rfl rfl ?_
   refine rg ?_
   refine mv (v := .pointer _) rfl rfl ?_
   refine mv (v := .slice _ _ _) rfl rfl ?_
   refine mv (v := .pointer _) rfl rfl ?_
   refine nc rfl rfl ?_
   refine fa rfl fo99_11 rfl ?_
   refine ld H rfl sc28 rfl rfl ?_
   refine cvi (c := (fld ds (512 * b + 24) 8) % 4294967296) rfl rfl Tryd.underlying53 (m_u32 _) rfl ?_
   refine cl ca56 (c_readProt _ b4 0 512 (pcs ds 0 512) _ (RB.allm (b := b4) H hbl0) (by decide)) rfl ?_
   rintro _ w13 ⟨rfl, F⟩
   replace H := H.keep F; clear F
   refine nc rfl rfl ?_
   refine fa rfl fo99_4 rfl ?_
   refine st (v := .bool _) H rfl rfl sc4 rfl (by first | decide | (simp only [List.length_set, List.length_cons, List.length_nil, List.length_replicate, List.length_append, Bs_length]; omega) | omega) (by omega) ?_
   clear H; intro w14 H _
   refine nl ?_
   refine then_n ?_
   refine sq ?_
   refine rg ?_
   refine mv (v := .iface _ _) rfl rfl ?_
   refine mv (v := .pointer _) rfl rfl ?_
   refine mv (v := .int .i64 _) rfl rfl ?_
   refine mv (v := .int .i64 _) rfl rfl ?_
   refine cl ca58 (c_loadE _ p f bm bd L c ds (H.fr.cell hm (by simp)) (hd.keep H.fr) hL hLc _ _ _ _ _ _ _ _ _ (H.look (b := p)) ⟨fun h => by simp at hbm; have := hlt.2; omega, fun h => by have := hlt.2; omega⟩ (by omega)) rfl ?_
   rintro _ w15 ⟨F, A10, e10, rfl, hie2, hif2, hce, hok2⟩
   refine xt rfl rfl rfl ?_
   refine xt rfl rfl rfl ?_
   refine asg (v := .pointer _) rfl rfl ?_
   refine asg rfl rfl ?_
   refine nl ?_
   refine then_n ?_
   refine rt ?_
   refine fin_r ?_
   have hge : w.heap.size ≤ p := Nat.le_trans hlt.2 hp1
   have hmy : fld ds (512 * b + 24) 8 = (b : Int) := Classical.not_not.1 hc4
   have hq : (hdrGood ds (512 * b) && decide (fld ds (512 * b + 24) 8 = (b : Int)) && decide (fld ds (512 * b + 88) 4 = crc32 (pcs ds (512 * f) 16384))) = decide (fld ds (512 * b + 88) 4 = crc32 (pcs ds (512 * f) 16384)) := by rw [hgd, decide_eq_true hmy]; rfl
   rw [hq]
   refine ⟨H.fr.then F (by simpa using hge), A10, e10, rfl, hie2, hif2, ?_⟩
   intro h
   obtain ⟨rfl, D, cap, l, h1, h2, O⟩ := hok2 (of_decide_eq_true h)
   exact ⟨p, rfl, D, cap, l, h1, h2, O.under H.fr hge⟩
end Go.Proofs.YthcaejaaalkglaaDoor.X
/- Walks of functions, printed by a program of this claim. -/
namespace Go.Proofs.YthcaejaaalkglaaDoor.X
set_option linter.unusedVariables false
set_option linter.unusedSimpArgs false
open Go Go.RowKit
namespace PF
theorem ca52 : callable Tryd.prog 52 = true := by kernel_rfl
theorem ca53 : callable Tryd.prog 53 = true := by kernel_rfl
theorem ca54 : callable Tryd.prog 54 = true := by kernel_rfl
theorem fo99_5 : fieldOff Tryd.prog 99 5 = some 5 := by kernel_rfl
end PF
open PF
set_option maxRecDepth 100000 in
set_option maxHeartbeats 1000000 in
theorem c_gptRead (w : World) (bm bd L c : Nat) (x1 x2 x3 : Value) (ds : List UInt8) (hm : w.heap[bm]? = some (.cells [.slice (some ⟨bd, 0, none⟩) L c, x1, x2, x3].toArray 94 (0, 0))) (hd : RB w (some ⟨bd, 0, none⟩) L ds) (hne : bm ≠ bd) (hL : 34816 ≤ L ∧ L ≤ 1000000000) (hLc : L ≤ c) (b f : Nat) (hLb : L = 512 * (b + 1)) (hf : 512 * f + 16384 ≤ L) (hcan1 : hdrGood ds 512 = true → fld ds 584 8 = 2 ∧ fld ds 592 4 = 128 ∧ fld ds 596 4 = 128) (hcan2 : hdrGood ds (512 * b) = true → fld ds (512 * b + 72) 8 = (f : Int) ∧ fld ds (512 * b + 80) 4 = 128 ∧ fld ds (512 * b + 84) 4 = 128) : Calls Tryd.prog 47 #[.iface 65 (.pointer (some ⟨bm, 0, none⟩)), .int .i64 512, .int .i64 512] w (Ret fun v w' => Fr [bm] w w' ∧ (∃ x, w'.heap[bm]? = some (.cells [.slice (some ⟨bd, 0, none⟩) L c, x, x2, x3].toArray 94 (0, 0))) ∧ ∃ A e, v = .tuple #[.pointer A, e] ∧ Ifc e ∧ isIf e = !((hdrGood ds 512 && decide (fld ds 600 4 = crc32 (pcs ds 1024 16384))) || (hdrGood ds (512 * b) && decide (fld ds (512 * b + 24) 8 = (b : Int)) && decide (fld ds (512 * b + 88) 4 = crc32 (pcs ds (512 * f) 16384)))) ∧ ((hdrGood ds 512 && decide (fld ds 600 4 = crc32 (pcs ds 1024 16384))) = true → ∃ p, A = some ⟨p, 0, none⟩ ∧ ∃ D cap l, l.map Prod.snd = usedC (pcs ds 1024 16384) 128 ∧ l.length ≤ 128 ∧ OR 100 1 w [bm] w' (⟨p, .cells (tbC D l.length cap 512 512 (gT (pcs ds 568 16)) (protB (pcs ds 0 512) (fld ds 544 8 % 4294967296)) false 128 128 2 (fld ds (600) 4) (fld ds (536) 8) (fld ds (544) 8) (fld ds (552) 8) (fld ds (560) 8) true).toArray 99 (0, 0), true⟩ :: ents 103 l) D l.length cap (ptrs l)) ∧ ((hdrGood ds 512 && decide (fld ds 600 4 = crc32 (pcs ds 1024 16384))) = false → (hdrGood ds (512 * b) && decide (fld ds (512 * b + 24) 8 = (b : Int)) && decide (fld ds (512 * b + 88) 4 = crc32 (pcs ds (512 * f) 16384))) = true → ∃ p, A = some ⟨p, 0, none⟩ ∧ ∃ D cap l, l.map Prod.snd = usedC (pcs ds (512 * f) 16384) 128 ∧ l.length ≤ 128 ∧ OR 100 1 w [bm] w' (⟨p, .cells (tbC D l.length cap 512 512 (gT (pcs ds (512 * b + 56) 16)) (protB (pcs ds 0 512) ((fld ds (512 * b + 24) 8) % 4294967296)) true 128 128 f (fld ds (512 * b + 88) 4) (fld ds (512 * b + 32) 8) (fld ds (512 * b + 24) 8) (fld ds (512 * b + 40) 8) (fld ds (512 * b + 48) 8) true).toArray 99 (0, 0), true⟩ :: ents 103 l) D l.length cap (ptrs l))) := by
 refine enter (fun ρ => .tuple #[ρ 6, ρ 7]) Tryd.func47 rfl rfl rfl (res2 rfl) ?_
 have H := SH.rw1 hm
 refine sq ?_
 refine rg ?_
 refine asg (v := .pointer _) rfl rfl ?_
 refine asg (v := .nilIface) rfl rfl ?_
 refine nl ?_
 refine then_n ?_
 refine sq ?_
 refine rg ?_
 refine mv (v := .iface _ _) rfl rfl ?_
 refine mv (v := .int .i64 _) rfl rfl ?_
 refine mv (v := .int .i64 _) rfl rfl ?_
 refine cl ca52 (c_readPrim _ bm bd L c ds (cell_at (H.look (b := bm))) hd ⟨by omega, hL.2⟩ hLc (by omega) hcan1) rfl ?_
 rintro _ w1 ⟨F, A9, e9, rfl, hie, hif, hce, hok⟩
 replace H := H.keep F
 refine mv (v := .tuple _) rfl rfl ?_
 refine xt rfl rfl rfl ?_
 refine xt rfl rfl rfl ?_
 refine asg (v := .pointer _) rfl rfl ?_
 refine asg rfl rfl ?_
 refine nl ?_
 refine then_n ?_
 refine sq ?_
 refine sq ?_
 refine rg ?_
 refine mv rfl rfl ?_
 refine eqlIG rfl Tryd.underlying74 (by assumption) rfl ?_
 refine nl ?_
 refine then_n ?_
 refine cn rfl (fun hc1 => ?_) (fun hc1 => ?_)
 ·have hg1 : (hdrGood ds 512 && decide (fld ds 600 4 = crc32 (pcs ds 1024 16384))) = true := by exact nb_f hif (by have h8 : (!isIf e9) = true := hc1; cases hq : isIf e9 with | true => rw [hq] at h8; exact Bool.noConfusion h8 | false => rfl)
  obtain ⟨p, rfl, D9, cap9, l9, h1, h2, O⟩ := hok hg1
  refine sq ?_
  refine rg ?_
  refine mv (v := .pointer _) rfl rfl ?_
  refine asg (v := .pointer _) rfl rfl ?_
  refine asg (v := .nilIface) rfl rfl ?_
  refine nl ?_
  refine then_n ?_
  refine rt ?_
  refine then_r ?_
  refine fin_r ?_
  exact ⟨H.fr, ⟨_, H.look⟩, _, _, rfl, .inl rfl, by rw [hg1]; rfl, fun _ => ⟨p, rfl, D9, cap9, l9, h1, h2, O.wide⟩, fun h => by rw [hg1] at h; exact Bool.noConfusion h⟩
 ·have hg1 : (hdrGood ds 512 && decide (fld ds 600 4 = crc32 (pcs ds 1024 16384))) = false := by exact nb_t hif (by have h8 : (!isIf e9) = false := hc1; cases hq : isIf e9 with | false => rw [hq] at h8; exact Bool.noConfusion h8 | true => rfl)
  obtain ⟨x9, rfl⟩ := hce hg1
  refine sk ?_
  refine then_n ?_
  refine sq ?_
  refine sq ?_
  refine rg ?_
  refine mv (v := .iface _ _) rfl rfl ?_
  refine taP rfl Tryd.underlying112 rfl rfl ?_
  refine mv (v := .tuple _) rfl rfl ?_
  refine xt rfl rfl rfl ?_
  refine xt rfl rfl rfl ?_
  refine asg (v := .pointer _) rfl rfl ?_
  refine asg (v := .bool _) rfl rfl ?_
  refine nl ?_
  refine then_n ?_
  refine sq ?_
  refine rg ?_
  refine mv (v := .bool _) rfl rfl ?_
  refine unot rfl rfl ?_
  refine nl ?_
  refine then_n ?_
  refine cbF rfl rfl ?_
  refine sk ?_
  refine then_n ?_
  refine sq ?_
  refine rg ?_
  refine mv (v := .iface _ _) rfl rfl ?_
  refine cl ca53 (c_seekSize _ bm bd L c x1 x2 x3 (H.look (b := bm)) hL.2) rfl ?_
  rintro _ w2 ⟨rfl, F3, hnew⟩
  replace H := H.put (b := bm) F3 hnew; clear F3 hnew
  refine mv (v := .tuple _) rfl rfl ?_
  refine xt rfl rfl rfl ?_
  refine xt rfl rfl rfl ?_
  refine asg (v := .int .i64 _) rfl rfl ?_
  refine asg (v := .nilIface) rfl rfl ?_
  refine nl ?_
  refine then_n ?_
  refine sq ?_
  refine sq ?_
  refine rg ?_
  refine mv (v := .nilIface) rfl rfl ?_
  refine neqI0 rfl Tryd.underlying74 rfl ?_
  refine nl ?_
  refine then_n ?_
  refine cbF rfl rfl ?_
  refine sk ?_
  refine then_n ?_
  refine sq ?_
  refine sq ?_
  refine rg ?_
  refine mv (v := .int .i64 _) rfl rfl ?_
  refine mv (v := .int .i64 _) rfl rfl ?_
  refine mul rfl rfl (by first | exact w_i64 (by omega) | exact w_i64 (rng_i64 _) | rfl) rfl ?_
  refine lss rfl rfl rfl ?_
  refine nl ?_
  refine then_n ?_
  refine cF rfl (by omega) ?_
  refine sk ?_
  refine then_n ?_
  refine sq ?_
  refine rg ?_
  refine mv (v := .int .i64 _) rfl rfl ?_
  refine mv (v := .int .i64 _) rfl rfl ?_
  refine quo (c := ((b + 1 : Nat) : Int)) rfl rfl (by omega) (by omega) (by rw [w_i64 (by omega)]; omega) rfl ?_
  refine cvi rfl rfl Tryd.underlying28 (by first | exact w_u64 (by omega) | exact w_u64 (rng_u64 _) | exact m_u64 _) rfl ?_
  refine sub (c := (b : Int)) rfl rfl (by rw [w_u64 (by omega)]; omega) rfl ?_
  refine asg (v := .int .u64 _) rfl rfl ?_
  refine nl ?_
  refine then_n ?_
  refine sq ?_
  refine rg ?_
  refine mv (v := .iface _ _) rfl rfl ?_
  refine mv (v := .int .i64 _) rfl rfl ?_
  refine mv (v := .int .i64 _) rfl rfl ?_
  refine mv (v := .int .u64 _) rfl rfl ?_
  refine cl ca54 (c_readBack _ b f bm bd L c ds (cell_at (H.look (b := bm))) (hd.now H.fr (by simpa using Ne.symm hne)) ⟨by omega, hL.2⟩ hLc (by omega) hf hcan2) rfl ?_
  rintro _ w3 ⟨F2, A10, e10, rfl, hie2, hif2, hok2⟩
  refine mv (v := .tuple _) rfl rfl ?_
  refine xt rfl rfl rfl ?_
  refine xt rfl rfl rfl ?_
  refine asg (v := .pointer _) rfl rfl ?_
  refine asg rfl rfl ?_
  refine nl ?_
  refine then_n ?_
  refine sq ?_
  refine sq ?_
  refine rg ?_
  refine mv rfl rfl ?_
  refine neqIG rfl Tryd.underlying74 (by assumption) rfl ?_
  refine nl ?_
  refine then_n ?_
  refine cn rfl (fun hc5 => ?_) (fun hc5 => ?_)
  ·replace H := H.keep F2
   have hg2 : (hdrGood ds (512 * b) && decide (fld ds (512 * b + 24) 8 = (b : Int)) && decide (fld ds (512 * b + 88) 4 = crc32 (pcs ds (512 * f) 16384))) = false := nb_t hif2 hc5
   refine sq ?_
   refine rg ?_
   refine cl ca49 (c_errNew _ _) rfl ?_
   rintro _ w4 ⟨⟨be1, rfl⟩, F⟩
   replace H := H.keep F; clear F
   refine asg (v := .pointer _) rfl rfl ?_
   refine asg (v := .iface _ _) rfl rfl ?_
   refine nl ?_
   refine then_n ?_
   refine rt ?_
   refine then_r ?_
   refine fin_r ?_
   exact ⟨H.fr, ⟨_, H.look⟩, _, _, rfl, .inr ⟨_, _, rfl⟩, by rw [hg1, hg2]; rfl, fun h => by rw [hg1] at h; exact Bool.noConfusion h, fun _ h => by rw [hg2] at h; exact Bool.noConfusion h⟩
  ·have hg2 : (hdrGood ds (512 * b) && decide (fld ds (512 * b + 24) 8 = (b : Int)) && decide (fld ds (512 * b + 88) 4 = crc32 (pcs ds (512 * f) 16384))) = true := nb_f hif2 hc5
   obtain ⟨p, rfl, D9, cap9, l9, h1, h2, O⟩ := hok2 hg2
   replace O := O.joinN H ents_m1
   simp only [List.cons_append, List.nil_append] at O
   replace H := O.sh
   refine sk ?_
   refine then_n ?_
   refine sq ?_
   refine rg ?_
   refine mv (v := .pointer _) rfl rfl ?_
   refine nc rfl rfl ?_
   refine fa rfl fo99_5 rfl ?_
   refine st (v := .bool _) H rfl rfl sc4 rfl (by show 0 + 5 < 15; decide) (by omega) ?_
   intro w95 H1 F; replace O := O.put F H1.look; clear H H1 F; have H := O.sh
   refine nl ?_
   refine then_n ?_
   refine sq ?_
   refine rg ?_
   refine mv (v := .pointer _) rfl rfl ?_
   refine asg (v := .pointer _) rfl rfl ?_
   refine asg (v := .nilIface) rfl rfl ?_
   refine nl ?_
   refine then_n ?_
   refine rt ?_
   refine fin_r ?_
   exact ⟨H.fr, ⟨_, H.look⟩, _, _, rfl, .inl rfl, by rw [hg1, hg2]; rfl, fun h => by rw [hg1] at h; exact Bool.noConfusion h, fun _ _ => ⟨p, rfl, D9, cap9, l9, h1, h2, O.sub (List.Sublist.cons _ (List.Sublist.refl _))⟩⟩
end Go.Proofs.YthcaejaaalkglaaDoor.X
/- Walks of functions, printed by a program of this claim. -/
namespace Go.Proofs.YthcaejaaalkglaaDoor.X
set_option linter.unusedVariables false
set_option linter.unusedSimpArgs false
open Go Go.RowKit
namespace PF
theorem ca45 : callable Tryd.prog 45 = true := by kernel_rfl
theorem ca46 : callable Tryd.prog 46 = true := by kernel_rfl
theorem ca47 : callable Tryd.prog 47 = true := by kernel_rfl
theorem cc65 : Tryd.prog.concrete 65 = true := by kernel_rfl
end PF
open PF
set_option maxRecDepth 100000 in
set_option maxHeartbeats 1000000 in
theorem c_implRead (w : World) (bm bd L c : Nat) (x1 x2 x3 : Value) (ds : List UInt8) (hm : w.heap[bm]? = some (.cells [.slice (some ⟨bd, 0, none⟩) L c, x1, x2, x3].toArray 94 (0, 0))) (hd : RB w (some ⟨bd, 0, none⟩) L ds) (hne : bm ≠ bd) (hL : 34816 ≤ L ∧ L ≤ 1000000000) (hLc : L ≤ c) (b f : Nat) (hLb : L = 512 * (b + 1)) (hf : 512 * f + 16384 ≤ L) (hcan1 : hdrGood ds 512 = true → fld ds 584 8 = 2 ∧ fld ds 592 4 = 128 ∧ fld ds 596 4 = 128) (hcan2 : hdrGood ds (512 * b) = true → fld ds (512 * b + 72) 8 = (f : Int) ∧ fld ds (512 * b + 80) 4 = 128 ∧ fld ds (512 * b + 84) 4 = 128) (hfit1 : fitsB ds 512 512 = true) (hfit2 : fitsB ds 512 (512 * b) = true) : Calls Tryd.prog 29 #[.pointer (some ⟨bm, 0, none⟩), .int .i64 512] w (Ret fun v w' => Fr [bm] w w' ∧ (∃ x, w'.heap[bm]? = some (.cells [.slice (some ⟨bd, 0, none⟩) L c, x, x2, x3].toArray 94 (0, 0))) ∧ ∃ A, v = .tuple #[.pointer A, .bool ((hdrGood ds 512 && decide (fld ds 600 4 = crc32 (pcs ds 1024 16384))) || (hdrGood ds (512 * b) && decide (fld ds (512 * b + 24) 8 = (b : Int)) && decide (fld ds (512 * b + 88) 4 = crc32 (pcs ds (512 * f) 16384))))] ∧ ((hdrGood ds 512 && decide (fld ds 600 4 = crc32 (pcs ds 1024 16384))) = true → ∃ p, A = some ⟨p, 0, none⟩ ∧ ∃ D cap l, l.map Prod.snd = usedC (pcs ds 1024 16384) 128 ∧ l.length ≤ 128 ∧ OR 100 1 w [bm] w' (⟨p, .cells (tbC D l.length cap 512 512 (gT (pcs ds 568 16)) (protB (pcs ds 0 512) (fld ds 544 8 % 4294967296)) false 128 128 2 (fld ds (600) 4) (fld ds (536) 8) (fld ds (544) 8) (fld ds (552) 8) (fld ds (560) 8) true).toArray 99 (0, 0), true⟩ :: ents 103 l) D l.length cap (ptrs l)) ∧ ((hdrGood ds 512 && decide (fld ds 600 4 = crc32 (pcs ds 1024 16384))) = false → (hdrGood ds (512 * b) && decide (fld ds (512 * b + 24) 8 = (b : Int)) && decide (fld ds (512 * b + 88) 4 = crc32 (pcs ds (512 * f) 16384))) = true → ∃ p, A = some ⟨p, 0, none⟩ ∧ ∃ D cap l, l.map Prod.snd = usedC (pcs ds (512 * f) 16384) 128 ∧ l.length ≤ 128 ∧ OR 100 1 w [bm] w' (⟨p, .cells (tbC D l.length cap 512 512 (gT (pcs ds (512 * b + 56) 16)) (protB (pcs ds 0 512) ((fld ds (512 * b + 24) 8) % 4294967296)) true 128 128 f (fld ds (512 * b + 88) 4) (fld ds (512 * b + 32) 8) (fld ds (512 * b + 24) 8) (fld ds (512 * b + 40) 8) (fld ds (512 * b + 48) 8) true).toArray 99 (0, 0), true⟩ :: ents 103 l) D l.length cap (ptrs l))) := by
 refine enter (fun ρ => .tuple #[ρ 4, ρ 5]) Tryd.func29 rfl rfl rfl (res2 rfl) ?_
 have H := SH.rw1 hm
 refine sq ?_
 refine rg ?_
 refine asg (v := .pointer _) rfl rfl ?_
 refine asg (v := .bool _) rfl rfl ?_
 refine nl ?_
 refine then_n ?_
 refine sq ?_
 refine sq ?_
 refine dr (by kernel_rfl) ?_
 have H := H.drew
 refine holdH H [] ?_
 refine tk (i := 0) rfl (by kernel_rfl) rfl H (fun w' H => r_mv (v := .int .i64 _) rfl) ?_
 refine fk (i := 1) (by kernel_rfl) rfl rfl rfl ?_
 refine cl ca45 (c_secAsked _ 512 (by decide)) rfl ?_
 rintro _ w1 ⟨rfl, F⟩
 replace H := H.keep F; clear F
 refine nl ?_
 refine then_n ?_
 refine ⟨H, ?_⟩
 refine tk (i := 2) rfl (by kernel_rfl) rfl H (fun w' H => r_unot rfl) ?_
 refine tk (i := 3) rfl (by kernel_rfl) rfl H (fun w' H => r_mv (v := .bool _) rfl) ?_
 refine spaL (t := 11) (b := false) rfl ?_
 refine tkg (i := 4) rfl (by kernel_rfl) rfl H rfl (fun w' H => r_mv (v := .pointer _) rfl) ?_
 refine tkg (i := 5) rfl (by kernel_rfl) rfl H rfl (fun w' H => r_nc rfl) ?_
 refine tkg (i := 6) rfl (by kernel_rfl) rfl H rfl (fun w' H => r_fa rfl fo94_0) ?_
 refine tkg (i := 7) rfl (by kernel_rfl) rfl H rfl (fun w' H => r_ld H rfl sc30 rfl) ?_
 refine tkg (i := 8) rfl (by kernel_rfl) rfl H rfl (fun w' H => r_mv (v := .int .i64 _) rfl) ?_
 refine tkg (i := 9) rfl (by kernel_rfl) rfl H rfl (fun w' H => r_mv (v := .int .i64 _) rfl) ?_
 refine fk (i := 10) (by kernel_rfl) rfl rfl rfl ?_
 refine gy rfl ?_
 refine cl ca46 (c_gptFits _ bd L c 512 512 ds (hd.now H.fr (by simpa using Ne.symm hne)) (by omega) hL.2 hLc (by decide)) rfl ?_
 rintro _ w2 ⟨rfl, F⟩
 replace H := H.keep F; clear F
 rw [hfit1]
 refine nl ?_
 refine then_n ?_
 refine ⟨H, ?_⟩
 refine tkg (i := 11) rfl (by kernel_rfl) rfl H rfl (fun w' H => r_unot rfl) ?_
 refine tk (i := 12) rfl (by kernel_rfl) rfl H (fun w' H => r_pkF (v := .bool _) rfl rfl) ?_
 refine tk (i := 13) rfl (by kernel_rfl) rfl H (fun w' H => r_mv (v := .bool _) rfl) ?_
 refine spaL (t := 21) (b := false) rfl ?_
 refine tkg (i := 14) rfl (by kernel_rfl) rfl H rfl (fun w' H => r_mv (v := .pointer _) rfl) ?_
 refine tkg (i := 15) rfl (by kernel_rfl) rfl H rfl (fun w' H => r_nc rfl) ?_
 refine tkg (i := 16) rfl (by kernel_rfl) rfl H rfl (fun w' H => r_fa rfl fo94_0) ?_
 refine tkg (i := 17) rfl (by kernel_rfl) rfl H rfl (fun w' H => r_ld H rfl sc30 rfl) ?_
 refine tkg (i := 18) rfl (by kernel_rfl) rfl H rfl (fun w' H => r_mv (v := .int .i64 _) rfl) ?_
 refine tkg (i := 19) rfl (by kernel_rfl) rfl H rfl (fun w' H => r_mv (v := .pointer _) rfl) ?_
 refine tkg (i := 20) rfl (by kernel_rfl) rfl H rfl (fun w' H => r_nc rfl) ?_
 refine tkg (i := 21) rfl (by kernel_rfl) rfl H rfl (fun w' H => r_fa rfl fo94_0) ?_
 refine tkg (i := 22) rfl (by kernel_rfl) rfl H rfl (fun w' H => r_ld H rfl sc30 rfl) ?_
 refine tkg (i := 23) rfl (by kernel_rfl) rfl H rfl (fun w' H => r_lnS rfl Tryd.underlying30) ?_
 refine tkg (i := 24) rfl (by kernel_rfl) rfl H rfl (fun w' H => r_mv (v := .int .i64 _) rfl) ?_
 refine tkg (i := 25) rfl (by kernel_rfl) rfl H rfl (fun w' H => r_quo (c := ((b + 1 : Nat) : Int)) rfl rfl (by omega) (by omega) (by rw [w_i64 (by omega)]; omega)) ?_
 refine tkg (i := 26) rfl (by kernel_rfl) rfl H rfl (fun w' H => r_mv (v := .int .i64 _) rfl) ?_
 refine tkg (i := 27) rfl (by kernel_rfl) rfl H rfl (fun w' H => r_mul (c := ((512 * (b + 1) : Nat) : Int)) rfl rfl (by rw [w_i64 (by omega)]; omega)) ?_
 refine tkg (i := 28) rfl (by kernel_rfl) rfl H rfl (fun w' H => r_mv (v := .int .i64 _) rfl) ?_
 refine tkg (i := 29) rfl (by kernel_rfl) rfl H rfl (fun w' H => r_sub (c := ((512 * b : Nat) : Int)) rfl rfl (by rw [w_i64 (by omega)]; omega)) ?_
 refine fk (i := 30) (by kernel_rfl) rfl rfl rfl ?_
 refine gy rfl ?_
 refine cl ca46 (c_gptFits _ bd L c 512 (512 * b) ds (hd.now H.fr (by simpa using Ne.symm hne)) (by omega) hL.2 hLc (by decide)) rfl ?_
 rintro _ w3 ⟨rfl, F⟩
 replace H := H.keep F; clear F
 rw [hfit2]
 refine nl ?_
 refine then_n ?_
 refine ⟨H, ?_⟩
 refine tkg (i := 31) rfl (by kernel_rfl) rfl H rfl (fun w' H => r_unot rfl) ?_
 refine tk (i := 32) rfl (by kernel_rfl) rfl H (fun w' H => r_pkF (v := .bool _) rfl rfl) ?_
 refine da (by kernel_rfl) ?_
 refine then_n ?_
 refine cbF rfl rfl ?_
 refine sk ?_
 refine then_n ?_
 refine sq ?_
 refine rg ?_
 refine mv (v := .pointer _) rfl rfl ?_
 refine mi (v := .pointer _) rfl cc65 rfl ?_
 refine mv (v := .int .i64 _) rfl rfl ?_
 refine mv (v := .int .i64 _) rfl rfl ?_
 refine cl ca47 (c_gptRead _ bm bd L c x1 x2 x3 ds (H.look (b := bm)) (hd.now H.fr (by simpa using Ne.symm hne)) hne hL hLc b f hLb hf hcan1 hcan2) rfl ?_
 have F0 := H.fr
 rintro _ w4 ⟨F, ⟨x9, hm9⟩, A9, e9, rfl, hie, hif, hr1, hr2⟩
 replace H := H.put (b := bm) F hm9
 refine mv (v := .tuple _) rfl rfl ?_
 refine xt rfl rfl rfl ?_
 refine xt rfl rfl rfl ?_
 refine asg (v := .pointer _) rfl rfl ?_
 refine asg rfl rfl ?_
 refine nl ?_
 refine then_n ?_
 refine sq ?_
 refine dr (by kernel_rfl) ?_
 have H := H.drew
 refine hold (fun _ => True) [] ?_
 refine tk (i := 0) rfl (by kernel_rfl) rfl trivial (fun _ _ => r_mv (v := .pointer _) rfl) ?_
 refine tk (i := 1) rfl (by kernel_rfl) rfl trivial (fun _ _ => r_mv rfl) ?_
 refine tk (i := 2) rfl (by kernel_rfl) rfl trivial (fun _ _ => r_eqlIG rfl Tryd.underlying74 (by assumption)) ?_
 refine tk (i := 3) rfl (by kernel_rfl) rfl trivial (fun _ _ => r_asg (v := .pointer _) rfl) ?_
 refine tk (i := 4) rfl (by kernel_rfl) rfl trivial (fun _ _ => r_asg (v := .bool _) rfl) ?_
 refine unfree ?_
 refine dn (by kernel_rfl) ?_
 refine then_n ?_
 refine rt ?_
 refine fin_r ?_
 refine ⟨H.fr, ⟨x9, hm9⟩, A9, ?_, fun h => ?_, fun h1 h2 => ?_⟩
 ·show Value.tuple #[.pointer A9, .bool (!isIf e9)] = _
  rw [hif, Bool.not_not]
 ·obtain ⟨p, hp, D, cap, l, k1, k2, O⟩ := hr1 h
  exact ⟨p, hp, D, cap, l, k1, k2, (O.backS F0).drew⟩
 ·obtain ⟨p, hp, D, cap, l, k1, k2, O⟩ := hr2 h1 h2
  exact ⟨p, hp, D, cap, l, k1, k2, (O.backS F0).drew⟩
end Go.Proofs.YthcaejaaalkglaaDoor.X
/- What the package tells of a table. -/
namespace Go.Proofs.YthcaejaaalkglaaDoor.X
set_option linter.unusedVariables false
open Go Go.RowKit
def pc (p : GP) : List Value := p.cells ++ [.int .i64 512, .int .i64 512]
def gpE (k : Int) (e : List UInt8) : GP := ⟨k, fld e 32 8, fld e 40 8, szE e, gT (pcs e 0 16), nmB e, gT (pcs e 16 16), fld e 48 8⟩
theorem entC_pc (k : Int) (e : List UInt8) : entC k (szE e) e = pc (gpE k e) := rfl
def useP (ar : List UInt8) (j : Nat) : Option GP := if freeE (entA ar j) then none else some (gpE ((j : Int) + 1) (entA ar j))
def usedP (ar : List UInt8) (i : Nat) : List GP := (List.range i).filterMap (useP ar)
theorem usedC_P (ar : List UInt8) (i : Nat) : usedC ar i = (usedP ar i).map pc := by
 unfold usedC usedP
 rw [List.map_filterMap]
 congr 1
 funext j
 unfold useJ useP
 split <;> simp [entC_pc]
def PR (T : TypeId) (w : World) (D : Option Addr) (l : PL) : Prop := ∀ i x, l[i]? = some x → ∃ ad, D = some ad ∧ w.cell? (ad.add i) = some (.pointer (some ⟨x.1, 0, none⟩)) ∧ w.heap[x.1]? = some (.cells x.2.toArray T (0, 0))
theorem OR.pr {T e : TypeId} {w0 w : World} {S : List Nat} {L : List Ent} {D : Option Addr} {k cap : Nat} {l : PL} (O : OR e 1 w0 S w L D k cap (ptrs l)) (hs : ∀ x ∈ ents T l, x ∈ L) : PR T w D l := by
 intro i x hx
 have hi := (List.getElem?_eq_some_iff.1 hx).1
 have hl : l.length = k := by have := O.len; simpa [ptrs_len] using this
 obtain ⟨ad, rfl⟩ := O.some_of (by omega)
 exact ⟨ad, rfl, O.one (ptrs_get hx), O.sh.ptr hs hx⟩
theorem PR.keep {T : TypeId} {w w' : World} {D : Option Addr} {l : PL} (h : PR T w D l) (f : Fr [] w w') : PR T w' D l := fun i x hx => by
 obtain ⟨ad, e, h1, h2⟩ := h i x hx
 exact ⟨ad, e, f.cell h1 (by simp), f.at h2 (by simp)⟩
def sameP (p q : GP) : Bool := decide (p.ix = q.ix) && (decide (p.st = q.st) && (decide (p.en = q.en) && (decide (p.sz = q.sz) && (sameG p.ty q.ty && (sameG p.gu q.gu && (decide (p.nm = q.nm) && decide (p.att = q.att)))))))
def sameT (g h : List UInt8) (ps qs : List GP) : Bool := sameG g h && (decide (ps.length = qs.length) && (ps.zip qs).all fun x => sameP x.1 x.2)
theorem sameT_t {g h : List UInt8} {ps qs : List GP} (h1 : sameG g h = true) (h2 : ps.length = qs.length) (h3 : ∀ j p q, j < ps.length → ps[j]? = some p → qs[j]? = some q → sameP p q = true) : sameT g h ps qs = true := by
 unfold sameT
 rw [h1, decide_eq_true h2, Bool.true_and, Bool.true_and, List.all_eq_true]
 intro x hx
 obtain ⟨j, hj, e⟩ := List.mem_iff_getElem.1 hx
 rw [List.getElem_zip] at e
 have hj' : j < ps.length ∧ j < qs.length := by rw [List.length_zip] at hj; omega
 exact h3 j x.1 x.2 hj'.1 (by rw [List.getElem?_eq_getElem hj'.1, ← e]) (by rw [List.getElem?_eq_getElem hj'.2, ← e])
theorem sameT_f {g h : List UInt8} {ps qs : List GP} {j : Nat} {p q : GP} (hp : ps[j]? = some p) (hq : qs[j]? = some q) (h3 : sameP p q = false) : sameT g h ps qs = false := by
 unfold sameT
 have hj1 := (List.getElem?_eq_some_iff.1 hp)
 have hj2 := (List.getElem?_eq_some_iff.1 hq)
 obtain ⟨a1, a2⟩ := hj1
 obtain ⟨c1, c2⟩ := hj2
 have : ((ps.zip qs).all fun x => sameP x.1 x.2) = false := by
  rw [List.all_eq_false]
  refine ⟨(p, q), ?_, by simp [h3]⟩
  rw [List.mem_iff_getElem]
  exact ⟨j, by simp; omega, by rw [List.getElem_zip, a2, c2]⟩
 rw [this]; simp
theorem sameS_next {ps qs : List GP} {i : Nat} {p q : GP} (h : ∀ j p q, j < i → ps[j]? = some p → qs[j]? = some q → sameP p q = true) (hp : ps[i]? = some p) (hq : qs[i]? = some q) (h2 : sameP p q = true) : ∀ j p q, j < i + 1 → ps[j]? = some p → qs[j]? = some q → sameP p q = true := fun j p' q' hj h1 h3 => by
 rcases Nat.lt_or_ge j i with h4 | h4
 ·exact h j p' q' h4 h1 h3
 ·obtain rfl : j = i := by omega
  rw [hp] at h1; rw [hq] at h3
  cases h1; cases h3; exact h2
def zG : List UInt8 := [48, 48, 48, 48, 48, 48, 48, 48, 45, 48, 48, 48, 48, 45, 48, 48, 48, 48, 45, 48, 48, 48, 48, 45, 48, 48, 48, 48, 48, 48, 48, 48, 48, 48, 48, 48]
def keepP (ps : List GP) : List GP := ps.filter fun p => !(sameG p.ty zG)
theorem keepP_t {ps : List GP} {i : Nat} {p : GP} (h : ps[i]? = some p) (h2 : sameG p.ty zG = false) : keepP (ps.take (i + 1)) = keepP (ps.take i) ++ [p] := by
 unfold keepP
 rw [take_succ_get h, List.filter_append]
 simp [h2]
theorem keepP_f {ps : List GP} {i : Nat} {p : GP} (h : ps[i]? = some p) (h2 : sameG p.ty zG = true) : keepP (ps.take (i + 1)) = keepP (ps.take i) := by
 unfold keepP
 rw [take_succ_get h, List.filter_append]
 simp [h2]
theorem keepP_le (ps : List GP) : (keepP ps).length ≤ ps.length := List.length_filter_le _ _
def gS : List UInt8 := [52, 51, 69, 53, 49, 56, 57, 50, 45, 51, 50, 55, 51, 45, 52, 50, 70, 55, 45, 66, 67, 68, 65, 45, 66, 52, 51, 66, 56, 48, 67, 68, 70, 67, 52, 56]
def pS : GP := ⟨1, 40, 49, 5120, [48, 70, 67, 54, 51, 68, 65, 70, 45, 56, 52, 56, 51, 45, 52, 55, 55, 50, 45, 56, 69, 55, 57, 45, 51, 68, 54, 57, 68, 56, 52, 55, 55, 68, 69, 52], [97], [48, 48, 48, 48, 48, 48, 48, 48, 45, 48, 48, 48, 48, 45, 48, 48, 48, 48, 45, 48, 48, 48, 48, 45, 48, 48, 48, 48, 48, 48, 48, 48, 48, 48, 65, 49], 0⟩
theorem pS_ok : pS.ok := ⟨by decide, by decide, by decide, by decide, by decide⟩
end Go.Proofs.YthcaejaaalkglaaDoor.X
/- Walks of functions, printed by a program of this claim. -/
namespace Go.Proofs.YthcaejaaalkglaaDoor.X
set_option linter.unusedVariables false
set_option linter.unusedSimpArgs false
open Go Go.RowKit
namespace PF
theorem bo24 : buildOK Tryd.prog 24 = true := by kernel_rfl
theorem bo49 : buildOK Tryd.prog 49 = true := by kernel_rfl
theorem fo103_0 : fieldOff Tryd.prog 103 0 = some 0 := by kernel_rfl
theorem fo103_4 : fieldOff Tryd.prog 103 4 = some 4 := by kernel_rfl
theorem fo103_5 : fieldOff Tryd.prog 103 5 = some 5 := by kernel_rfl
theorem fo103_6 : fieldOff Tryd.prog 103 6 = some 6 := by kernel_rfl
theorem fo103_7 : fieldOff Tryd.prog 103 7 = some 7 := by kernel_rfl
theorem fo99_3 : fieldOff Tryd.prog 99 3 = some 3 := by kernel_rfl
theorem pl24_1 : placeOf Tryd.prog 24 1 = some (1, 1) := by kernel_rfl
theorem pl24_2 : placeOf Tryd.prog 24 2 = some (2, 1) := by kernel_rfl
theorem pl24_3 : placeOf Tryd.prog 24 3 = some (3, 1) := by kernel_rfl
theorem pl24_4 : placeOf Tryd.prog 24 4 = some (4, 1) := by kernel_rfl
theorem pl49_0 : placeOf Tryd.prog 49 0 = some (0, 1) := by kernel_rfl
theorem pl49_1 : placeOf Tryd.prog 49 1 = some (1, 1) := by kernel_rfl
theorem pl49_2 : placeOf Tryd.prog 49 2 = some (2, 1) := by kernel_rfl
theorem pl49_3 : placeOf Tryd.prog 49 3 = some (3, 1) := by kernel_rfl
theorem pl49_4 : placeOf Tryd.prog 49 4 = some (4, 1) := by kernel_rfl
theorem pl49_5 : placeOf Tryd.prog 49 5 = some (5, 1) := by kernel_rfl
theorem pl49_6 : placeOf Tryd.prog 49 6 = some (6, 1) := by kernel_rfl
theorem pl49_7 : placeOf Tryd.prog 49 7 = some (7, 1) := by kernel_rfl
theorem ri49 : rowInfo Tryd.prog 49 = some ([.int .i64 0, .int .u64 0, .int .u64 0, .int .u64 0, .string ⟨#[]⟩, .string ⟨#[]⟩, .string ⟨#[]⟩, .int .u64 0], 88) := by kernel_rfl
theorem sc100 : scalarB Tryd.prog 100 = true := by kernel_rfl
theorem sc101 : scalarB Tryd.prog 101 = true := by kernel_rfl
theorem ze24 : zeroL Tryd.prog 24 = some [.slice none 0 0, .int .i64 0, .string ⟨#[]⟩, .bool false, .bool false] := by kernel_rfl
end PF
open PF
set_option maxRecDepth 100000 in
set_option maxHeartbeats 1000000 in
theorem c_told (w : World) (p : Nat) (D : Option Addr) (cap : Nat) (l : PL) (qs : List GP) (g : List UInt8) (pr rb ini : Bool) (cnt esz frm crc my oth fi lx : Int) (hp : w.heap[p]? = some (.cells (tbC D l.length cap 512 512 g pr rb cnt esz frm crc my oth fi lx ini).toArray 99 (0, 0))) (hr : PR 103 w D l) (hl : l.map Prod.snd = qs.map pc) (hm : l.length ≤ 200) : Calls Tryd.prog 31 #[.pointer (some ⟨p, 0, none⟩)] w (Ret fun v w' => ∃ D2 cap2, v = .agg (gtCells D2 l.length cap2 512 g pr rb).toArray ∧ OR 49 8 w [] w' [] D2 l.length cap2 (qs.flatMap GP.cells)) := by
 refine enterR [.cell 2 24] Tryd.func31 rfl rfl rfl rfl ?_
 have H := SH.nil w
 have hql : qs.length = l.length := by have := congrArg List.length hl; simpa using this.symm
 have t0 : w.cell? ⟨p, 0, none⟩ = some (.slice D l.length cap) := cell_at hp
 have t1 : w.cell? ⟨p, 1, none⟩ = some (.int .i64 512) := cell_at hp
 have t3 : w.cell? ⟨p, 3, none⟩ = some (.string (str g)) := cell_at hp
 have t4 : w.cell? ⟨p, 4, none⟩ = some (.bool pr) := cell_at hp
 have t5 : w.cell? ⟨p, 5, none⟩ = some (.bool rb) := cell_at hp
 refine sq ?_
 refine rg ?_
 refine al H ze24 rfl ?_
 clear H; intro b1 w1 hb1 H _
 refine nl ?_
 refine then_n ?_
 refine sq ?_
 refine dr (by kernel_rfl) ?_
 have H := H.drew
 refine hold (fun _ => True) [] ?_
 refine tk (i := 0) rfl (by kernel_rfl) rfl trivial (fun _ _ => r_mv (v := .pointer _) rfl) ?_
 refine tk (i := 1) rfl (by kernel_rfl) rfl trivial (fun _ _ => r_nc rfl) ?_
 refine tk (i := 2) rfl (by kernel_rfl) rfl trivial (fun _ _ => r_fa rfl fo99_1) ?_
 refine tk (i := 4) rfl (by kernel_rfl) rfl trivial (fun _ _ => r_mv (v := .pointer _) rfl) ?_
 refine tk (i := 5) rfl (by kernel_rfl) rfl trivial (fun _ _ => r_nc rfl) ?_
 refine tk (i := 6) rfl (by kernel_rfl) rfl trivial (fun _ _ => r_fa rfl fo99_3) ?_
 refine tk (i := 8) rfl (by kernel_rfl) rfl trivial (fun _ _ => r_mv (v := .pointer _) rfl) ?_
 refine tk (i := 9) rfl (by kernel_rfl) rfl trivial (fun _ _ => r_nc rfl) ?_
 refine tk (i := 10) rfl (by kernel_rfl) rfl trivial (fun _ _ => r_fa rfl fo99_4) ?_
 refine tk (i := 12) rfl (by kernel_rfl) rfl trivial (fun _ _ => r_mv (v := .pointer _) rfl) ?_
 refine tk (i := 13) rfl (by kernel_rfl) rfl trivial (fun _ _ => r_nc rfl) ?_
 refine tk (i := 14) rfl (by kernel_rfl) rfl trivial (fun _ _ => r_fa rfl fo99_5) ?_
 refine unfree ?_
 refine holdH H [18] ?_
 refine tk (i := 3) rfl (by kernel_rfl) rfl H (fun w' H => r_lc rfl (by first | assumption | exact H.fr.cell (by assumption) (by simp)) sc3) ?_
 refine tk (i := 7) rfl (by kernel_rfl) rfl H (fun w' H => r_lc rfl (by first | assumption | exact H.fr.cell (by assumption) (by simp)) sc9) ?_
 refine tk (i := 11) rfl (by kernel_rfl) rfl H (fun w' H => r_lc rfl (by first | assumption | exact H.fr.cell (by assumption) (by simp)) sc4) ?_
 refine tk (i := 15) rfl (by kernel_rfl) rfl H (fun w' H => r_lc rfl (by first | assumption | exact H.fr.cell (by assumption) (by simp)) sc4) ?_
 refine tkbu (out := ?o1) (i := 16) rfl (by kernel_rfl) rfl H ze24 bo24 ?f1 ?_
 case f1 =>
  refine FL.one (v := .int .i64 _) rfl pl24_1 rfl (by first | decide | simp) ?_
  refine FL.one (v := .string _) rfl pl24_2 rfl (by first | decide | simp) ?_
  refine FL.one (v := .bool _) rfl pl24_3 rfl (by first | decide | simp) ?_
  refine FL.one (v := .bool _) rfl pl24_4 rfl (by first | decide | simp) ?_
  exact FL.nil
 refine fk (i := 17) (by kernel_rfl) rfl rfl rfl ?_
 refine al H ze24 rfl ?_
 clear H; intro b2 w2 hb2 H _
 refine nl ?_
 refine then_n ?_
 refine ⟨H.drop, ?_⟩
 refine fb (i := 18) (by kernel_rfl) rfl rfl rfl ?_
 refine sa H rfl rfl ag24_5 rfl rfl (by decide) (by omega) rfl ?_
 clear H; intro w3 H _
 refine nl ?_
 refine then_n ?_
 refine dn (by kernel_rfl) ?_
 refine then_n ?_
 refine sq ?_
 refine sq ?_
 refine rg ?_
 refine mv (v := .pointer _) rfl rfl ?_
 refine nc rfl rfl ?_
 refine fa rfl fo99_0 rfl ?_
 refine lc rfl (by first | assumption | exact H.fr.cell (by assumption) (by simp)) sc97 rfl ?_
 refine lnS rfl Tryd.underlying97 rfl ?_
 refine mv (v := .int .i64 _) rfl rfl ?_
 refine nl ?_
 refine then_n ?_
 refine bk ?_
 refine lpM (α := Nat × Option Addr × Nat) [5, 28, 29, 30, 31, 32, 33, 34, 35, 36, 37, 38, 39, 40, 41, 42, 43, 44, 45, 46, 47, 48, 49, 50, 51, 52, 53, 54, 55, 56, 57, 58, 59, 60, 61, 62, 63, 64, 65, 66, 67, 68, 69, 70] (fun (i, D2, cap2) => [(28, .int .i64 (i : Int))]) (fun (i, D2, cap2) w' => i ≤ l.length ∧ OR 49 8 w [] w' [⟨b2, .cells (gtCells D2 i cap2 512 g pr rb).toArray 24 (0, 0), true⟩, ⟨b1, .cells (gtCells none 0 0 0 [] false false).toArray 24 (0, 0), true⟩] D2 i cap2 ((qs.take i).flatMap GP.cells)) (fun (i, D2, cap2) => l.length - i) (0, none, 0) ?_ (fCX (fN _)) ?_
 ·exact ⟨by omega, OR.nil H⟩
 ·rintro ⟨i, D2, cap2⟩ ρx w4 ⟨hi, O⟩
  have H := O.sh
  refine sq ?_
  refine rg ?_
  refine lss rfl rfl rfl ?_
  refine nl ?_
  refine then_n ?_
  refine sq ?_
  refine cd rfl (fun hc1 => ?_) (fun hc1 => ?_)
  ·obtain ⟨x, hx⟩ : ∃ x, l[i]? = some x := ⟨_, List.getElem?_eq_getElem (by omega)⟩
   obtain ⟨q, hq⟩ : ∃ q, qs[i]? = some q := ⟨_, List.getElem?_eq_getElem (by omega)⟩
   obtain ⟨ad, rfl, hx1, hx2⟩ := hr i x hx
   have hxq : x.2 = pc q := by
    have e := congrArg (fun m => m[i]?) hl
    simpa [hx, hq] using e
   rw [hxq] at hx2
   have k0 : w.cell? ⟨x.1, 0, none⟩ = some (.int .i64 q.ix) := cell_at hx2
   have k1 : w.cell? ⟨x.1, 1, none⟩ = some (.int .u64 q.st) := cell_at hx2
   have k2 : w.cell? ⟨x.1, 2, none⟩ = some (.int .u64 q.en) := cell_at hx2
   have k3 : w.cell? ⟨x.1, 3, none⟩ = some (.int .u64 q.sz) := cell_at hx2
   have k4 : w.cell? ⟨x.1, 4, none⟩ = some (.string (str q.ty)) := cell_at hx2
   have k5 : w.cell? ⟨x.1, 5, none⟩ = some (.string (str q.nm)) := cell_at hx2
   have k6 : w.cell? ⟨x.1, 6, none⟩ = some (.string (str q.gu)) := cell_at hx2
   have k7 : w.cell? ⟨x.1, 7, none⟩ = some (.int .u64 q.att) := cell_at hx2
   refine sk ?_
   refine then_n ?_
   refine sq ?_
   refine bk ?_
   refine sq ?_
   refine rg ?_
   refine iA rfl rfl Tryd.underlying97 sz100_1 (by omega) rfl ?_
   refine lc rfl (by first | assumption | exact H.fr.cell (by assumption) (by simp)) sc100 rfl ?_
   refine asg (v := .pointer _) rfl rfl ?_
   refine nl ?_
   refine then_n ?_
   refine dr (by kernel_rfl) ?_
   have H := H.drew
   replace O := O.drew
   refine hold (fun w' => SH w [] w' [⟨b2, .cells (gtCells D2 i cap2 512 g pr rb).toArray 24 (0, 0), true⟩, ⟨b1, .cells (gtCells none 0 0 0 [] false false).toArray 24 (0, 0), true⟩]) [38] ?_
   refine tk (i := 0) rfl (by kernel_rfl) rfl (H.subX) (fun w' H => r_fa rfl fo24_0) ?_
   refine tk (i := 1) rfl (by kernel_rfl) rfl (H.subX) (fun w' H => r_ld H rfl sc22 rfl) ?_
   refine tk (i := 2) rfl (by kernel_rfl) rfl (H.subX) (fun w' H => r_mv (v := .pointer _) rfl) ?_
   refine tk (i := 3) rfl (by kernel_rfl) rfl (H.subX) (fun w' H => r_nc rfl) ?_
   refine tk (i := 4) rfl (by kernel_rfl) rfl (H.subX) (fun w' H => r_fa rfl fo103_0) ?_
   refine tk (i := 5) rfl (by kernel_rfl) rfl (H.subX) (fun w' H => r_lc rfl (by first | assumption | exact H.fr.cell (by assumption) (by simp)) sc3) ?_
   refine tk (i := 6) rfl (by kernel_rfl) rfl (H.subX) (fun w' H => r_mv (v := .pointer _) rfl) ?_
   refine tk (i := 7) rfl (by kernel_rfl) rfl (H.subX) (fun w' H => r_nc rfl) ?_
   refine tk (i := 8) rfl (by kernel_rfl) rfl (H.subX) (fun w' H => r_fa rfl fo103_1) ?_
   refine tk (i := 9) rfl (by kernel_rfl) rfl (H.subX) (fun w' H => r_lc rfl (by first | assumption | exact H.fr.cell (by assumption) (by simp)) sc28) ?_
   refine tk (i := 10) rfl (by kernel_rfl) rfl (H.subX) (fun w' H => r_mv (v := .pointer _) rfl) ?_
   refine tk (i := 11) rfl (by kernel_rfl) rfl (H.subX) (fun w' H => r_nc rfl) ?_
   refine tk (i := 12) rfl (by kernel_rfl) rfl (H.subX) (fun w' H => r_fa rfl fo103_2) ?_
   refine tk (i := 13) rfl (by kernel_rfl) rfl (H.subX) (fun w' H => r_lc rfl (by first | assumption | exact H.fr.cell (by assumption) (by simp)) sc28) ?_
   refine tk (i := 14) rfl (by kernel_rfl) rfl (H.subX) (fun w' H => r_mv (v := .pointer _) rfl) ?_
   refine tk (i := 15) rfl (by kernel_rfl) rfl (H.subX) (fun w' H => r_nc rfl) ?_
   refine tk (i := 16) rfl (by kernel_rfl) rfl (H.subX) (fun w' H => r_fa rfl fo103_3) ?_
   refine tk (i := 17) rfl (by kernel_rfl) rfl (H.subX) (fun w' H => r_lc rfl (by first | assumption | exact H.fr.cell (by assumption) (by simp)) sc28) ?_
   refine tk (i := 18) rfl (by kernel_rfl) rfl (H.subX) (fun w' H => r_mv (v := .pointer _) rfl) ?_
   refine tk (i := 19) rfl (by kernel_rfl) rfl (H.subX) (fun w' H => r_nc rfl) ?_
   refine tk (i := 20) rfl (by kernel_rfl) rfl (H.subX) (fun w' H => r_fa rfl fo103_4) ?_
   refine tk (i := 21) rfl (by kernel_rfl) rfl (H.subX) (fun w' H => r_lc rfl (by first | assumption | exact H.fr.cell (by assumption) (by simp)) sc101) ?_
   refine tk (i := 22) rfl (by kernel_rfl) rfl (H.subX) (fun w' H => r_mv (v := .pointer _) rfl) ?_
   refine tk (i := 23) rfl (by kernel_rfl) rfl (H.subX) (fun w' H => r_nc rfl) ?_
   refine tk (i := 24) rfl (by kernel_rfl) rfl (H.subX) (fun w' H => r_fa rfl fo103_5) ?_
   refine tk (i := 25) rfl (by kernel_rfl) rfl (H.subX) (fun w' H => r_lc rfl (by first | assumption | exact H.fr.cell (by assumption) (by simp)) sc9) ?_
   refine tk (i := 26) rfl (by kernel_rfl) rfl (H.subX) (fun w' H => r_mv (v := .pointer _) rfl) ?_
   refine tk (i := 27) rfl (by kernel_rfl) rfl (H.subX) (fun w' H => r_nc rfl) ?_
   refine tk (i := 28) rfl (by kernel_rfl) rfl (H.subX) (fun w' H => r_fa rfl fo103_6) ?_
   refine tk (i := 29) rfl (by kernel_rfl) rfl (H.subX) (fun w' H => r_lc rfl (by first | assumption | exact H.fr.cell (by assumption) (by simp)) sc9) ?_
   refine tk (i := 30) rfl (by kernel_rfl) rfl (H.subX) (fun w' H => r_mv (v := .pointer _) rfl) ?_
   refine tk (i := 31) rfl (by kernel_rfl) rfl (H.subX) (fun w' H => r_nc rfl) ?_
   refine tk (i := 32) rfl (by kernel_rfl) rfl (H.subX) (fun w' H => r_fa rfl fo103_7) ?_
   refine tk (i := 33) rfl (by kernel_rfl) rfl (H.subX) (fun w' H => r_lc rfl (by first | assumption | exact H.fr.cell (by assumption) (by simp)) sc28) ?_
   refine tkbu (out := ?o2) (i := 34) rfl (by kernel_rfl) rfl (H.subX) ze49 bo49 ?f2 ?_
   case f2 =>
    refine FL.one (v := .int .i64 _) rfl pl49_0 rfl (by first | decide | simp) ?_
    refine FL.one (v := .int .u64 _) rfl pl49_1 rfl (by first | decide | simp) ?_
    refine FL.one (v := .int .u64 _) rfl pl49_2 rfl (by first | decide | simp) ?_
    refine FL.one (v := .int .u64 _) rfl pl49_3 rfl (by first | decide | simp) ?_
    refine FL.one (v := .string _) rfl pl49_4 rfl (by first | decide | simp) ?_
    refine FL.one (v := .string _) rfl pl49_5 rfl (by first | decide | simp) ?_
    refine FL.one (v := .string _) rfl pl49_6 rfl (by first | decide | simp) ?_
    refine FL.one (v := .int .u64 _) rfl pl49_7 rfl (by first | decide | simp) ?_
    exact FL.nil
   refine fk (i := 35) (by kernel_rfl) rfl rfl rfl ?_
   refine bsl (sz := 8) (out := ?o3) H Tryd.underlying22 ze49 sz49_8 (by decide) ?f3 rfl ?_
   case f3 =>
    refine FS.agg (vs := _) rfl rfl (by first | decide | simp) ?_
    exact FS.nil
   intro b3 w5 hb3 H1 F; replace O := O.new F hb3 H1.look; clear H H1 F; have H := O.sh
   refine nl ?_
   refine then_n ?_
   refine ⟨H.subX, ?_⟩
   refine fk (i := 36) (by kernel_rfl) rfl rfl rfl ?_
   refine apO (zs := [.int .i64 0, .int .u64 0, .int .u64 0, .int .u64 0, .string ⟨#[]⟩, .string ⟨#[]⟩, .string ⟨#[]⟩, .int .u64 0]) q.cells O rfl rfl Tryd.underlying22 ri49 (by first | rfl | simp) (cells_look H.look) (List.all_eq_true.1 q.cells_one) (by simp) (by omega) (by unfold maxLen; omega) rfl ?_
   clear O H; intro D9 cp9 w6 O
   replace O := O.drop; have H := O.sh
   refine nl ?_
   refine then_n ?_
   refine ⟨H.subX, ?_⟩
   refine tk (i := 37) rfl (by kernel_rfl) rfl (H.subX) (fun w' H => r_fa rfl fo24_0) ?_
   refine fb (i := 38) (by kernel_rfl) rfl rfl rfl ?_
   refine st (v := .slice _ _ _) H rfl rfl sc22 rfl (by show 0 + 0 < 5; decide) (by omega) ?_
   intro w95 H1 F; replace O := O.put F H1.look; clear H H1 F; have H := O.sh
   refine nl ?_
   refine then_n ?_
   refine dn (by kernel_rfl) ?_
   refine in_n ?_
   refine then_n ?_
   refine rg ?_
   refine add rfl rfl (by first | exact w_i64 (by omega) | exact w_i64 (rng_i64 _) | rfl) rfl ?_
   refine mv (v := .int .i64 _) rfl rfl ?_
   refine nl ?_
   refine loop_n ?_
   exact ⟨(i + 1, D9, cp9), (by (try dsimp only); omega), ⟨by omega, by rw [take_succ_get hq, List.flatMap_append]; exact O⟩, (fCX (fN _)), agX⟩
  ·refine ex ?_
   refine then_e ?_
   refine loop_e ?_
   refine in_hit rfl ?_
   refine then_n ?_
   refine sq ?_
   refine rg ?_
   refine la (vs := gtCells D2 i cap2 512 g pr rb) H rfl ag24_5 rfl rfl rfl ?_
   refine sa (cs' := gtCells D2 i cap2 512 g pr rb) H rfl rfl ag24_5 rfl rfl (by show 0 + 5 ≤ 5; decide) (by omega) rfl ?_
   intro w96 H96 F96; replace O := O.put F96 H96.look; clear H H96 F96; have H := O.sh
   refine nl ?_
   refine then_n ?_
   refine rt ?_
   refine finR_r ?_
   obtain rfl : i = l.length := by omega
   rw [List.take_of_length_le (by omega)] at O
   exact ⟨[_], ⟨finC rfl (H.look (b := b1)) ag24_5, trivial⟩, _, _, rfl, O.sub (List.nil_sublist _)⟩
end Go.Proofs.YthcaejaaalkglaaDoor.X
