/- Laws and walks on the road to the statement: P43, CallHeap, P44, CallHeap2, P45, WrPure, P46, StRow, P48, TextPure, P49, ApZ, GatPure, MbrRow, MbrTab, MbrTab2. -/
import Derived.Test.YthcaejaaalkglaaGreatDoorM8
import Derived.DataElems
/- Walks of functions, printed by a program of this claim. -/
namespace Go.Proofs.YthcaejaaalkglaaGreatDoor.X
set_option linter.unusedVariables false
set_option linter.unusedSimpArgs false
open Go Go.RowKit
namespace PF
theorem ca53 : callable Tryz.prog 53 = true := by kernel_rfl
theorem ca54 : callable Tryz.prog 54 = true := by kernel_rfl
end PF
open PF
set_option maxRecDepth 100000 in
set_option maxHeartbeats 8000000 in
theorem c_toGptT (w : World) (t : Nat) (D : Option Addr) (m cap : Nat) (g : List UInt8) (pr rb : Bool) (frm crc : Int) (n : Nat) (hn : 80 ≤ n ∧ n ≤ 1000000) (l : PL) (ps : List GP) (y1 y2 : Value) (hsnd : l.map Prod.snd = ps.map (pcY y1 y2)) (hlen : l.length = m) (hrow : ∀ j x, l[j]? = some x → ∃ ad, D = some ad ∧ w.cell? (ad.add j) = some (.pointer (some ⟨x.1, 0, none⟩))) (hDn : ∀ ad, D = some ad → ad.block ∉ l.map Prod.fst) (hg : goodL n ps) (hok : ∀ p ∈ ps, p.ok) (hft : ∀ p ∈ ps, p.fit) (hm : m ≤ 200) (hgu : gOk g = true) (H0 : SH w (l.map Prod.fst) w (⟨t, .cells (tbC D m cap 512 512 g pr rb 128 128 frm crc 1 ((n : Int) - 1) 34 ((n : Int) - 34) true).toArray 106 (0, 0), false⟩ :: ents 126 l)) : Calls Tryz.prog 52 #[.pointer (some ⟨t, 0, none⟩), .bool true] w (Ret fun v w' => ∃ q l', v = .tuple #[.slice (some ⟨q, 0, none⟩) 512 512, .nilIface] ∧ l'.map Prod.fst = l.map Prod.fst ∧ l'.map Prod.snd = (ps.map upG).map (pcY y1 y2) ∧ SH w (l.map Prod.fst) w' (⟨q, .cells (Bs (hdrB 1 ((n : Int) - 1) 2 (n : Int) (gB g) (crc32 (arrB ps)))).toArray 5 (0, 0), true⟩ :: ents 126 l')) := by
 refine enter (fun ρ => .tuple #[ρ 4, ρ 5]) Tryz.func52 rfl rfl rfl (res2 rfl) ?_
 have H := H0
 have h0 : (List.replicate 512 (0 : UInt8)).length = 512 := List.length_replicate
 have hgl := gB_len g
 have hfs : ∀ p ∈ ps, p.fits := fun p hp => (hg.1 p hp).fits
 have hal := arrB_len hfs
 have hcr := hdrS_rng (arrB ps)
 refine sq ?_
 refine rg ?_
 refine asg (v := .slice _ _ _) rfl rfl ?_
 refine asg (v := .nilIface) rfl rfl ?_
 refine nl ?_
 refine then_n ?_
 refine sq ?_
 refine rg ?_
 refine mv (v := .pointer _) rfl rfl ?_
 refine nc rfl rfl ?_
 refine fa rfl fo106_1 rfl ?_
 refine ld H rfl sc3 rfl rfl ?_
 refine mkB H rfl rfl Tryz.underlying30 mi5 (by omega) (by omega) (by omega) (by omega) rfl ?_
 clear H; intro b1 w1 hb1 H _
 replace H := sh_cells0 (cs' := Bs (List.replicate 512 0)) H rfl
 refine asg (v := .slice _ _ _) rfl rfl ?_
 refine nl ?_
 refine then_n ?_
 refine sq ?_
 refine dr (by kernel_rfl) ?_
 have H := H.drew
 refine hold (fun _ => True) [] ?_
 refine tk (i := 0) rfl (by kernel_rfl) rfl trivial (fun _ _ => r_mv (v := .slice _ _ _) rfl) ?_
 refine tk (i := 1) rfl (by kernel_rfl) rfl trivial (fun _ _ => r_sllhN (0) (8) (512) rfl rfl rfl Tryz.underlying30 sz5_1 (by omega) (by omega)) ?_
 refine unfree ?_
 refine fo (i := 2) (by kernel_rfl) rfl rfl ?_
 refine cl ca67 (c_getSig _) rfl ?_
 rintro _ w2 ⟨b2, rfl, hb2, ho2, F⟩
 replace H := H.new F hb2 ho2; clear F ho2
 refine nl ?_
 refine then_n ?_
 refine fo (i := 3) (by kernel_rfl) rfl rfl ?_
 refine cpP (bs := efiL) H rfl rfl Tryz.underlying30 sz5_1 (RB.allL efiL H rfl) (by decide) (by omega) (by omega) rfl ?_
 clear H; intro w3 H _ hl1
 refine nl ?_
 refine then_n ?_
 refine dn (by kernel_rfl) ?_
 refine then_n ?_
 refine sq ?_
 refine dr (by kernel_rfl) ?_
 have H := H.drew
 refine hold (fun _ => True) [] ?_
 refine tk (i := 0) rfl (by kernel_rfl) rfl trivial (fun _ _ => r_mv (v := .slice _ _ _) rfl) ?_
 refine tk (i := 1) rfl (by kernel_rfl) rfl trivial (fun _ _ => r_sllhN (8) (4) (504) rfl rfl rfl Tryz.underlying30 sz5_1 (by omega) (by omega)) ?_
 refine unfree ?_
 refine fo (i := 2) (by kernel_rfl) rfl rfl ?_
 refine cl ca68 (c_getRev _) rfl ?_
 rintro _ w4 ⟨b3, rfl, hb3, ho3, F⟩
 replace H := H.new F hb3 ho3; clear F ho3
 refine nl ?_
 refine then_n ?_
 refine fo (i := 3) (by kernel_rfl) rfl rfl ?_
 refine cpP (bs := [0, 0, 1, 0]) H rfl rfl Tryz.underlying30 sz5_1 (RB.allL [0, 0, 1, 0] H rfl) (by decide) (by omega) (by omega) rfl ?_
 clear H; intro w5 H _ hl2
 refine nl ?_
 refine then_n ?_
 refine dn (by kernel_rfl) ?_
 refine then_n ?_
 refine sq ?_
 refine dr (by kernel_rfl) ?_
 have H := H.drew
 refine hold (fun _ => True) [] ?_
 refine tk (i := 0) rfl (by kernel_rfl) rfl trivial (fun _ _ => r_mv (v := .slice _ _ _) rfl) ?_
 refine tk (i := 1) rfl (by kernel_rfl) rfl trivial (fun _ _ => r_sllhN (12) (4) (500) rfl rfl rfl Tryz.underlying30 sz5_1 (by omega) (by omega)) ?_
 refine unfree ?_
 refine fo (i := 2) (by kernel_rfl) rfl rfl ?_
 refine cl ca69 (c_getHs _) rfl ?_
 rintro _ w6 ⟨b4, rfl, hb4, ho4, F⟩
 replace H := H.new F hb4 ho4; clear F ho4
 refine nl ?_
 refine then_n ?_
 refine fo (i := 3) (by kernel_rfl) rfl rfl ?_
 refine cpP (bs := [92, 0, 0, 0]) H rfl rfl Tryz.underlying30 sz5_1 (RB.allL [92, 0, 0, 0] H rfl) (by decide) (by omega) (by omega) rfl ?_
 clear H; intro w7 H _ hl3
 refine nl ?_
 refine then_n ?_
 refine dn (by kernel_rfl) ?_
 refine then_n ?_
 refine sq ?_
 refine rg ?_
 refine mv (v := .slice _ _ _) rfl rfl ?_
 refine sllhN (16) (4) (496) rfl rfl rfl Tryz.underlying30 sz5_1 (by omega) (by omega) rfl ?_
 refine bsl (sz := 1) (out := ?o1) H Tryz.underlying30 ze5 sz5_1 (by decide) ?f1 rfl ?_
 case f1 =>
  refine FS.one (v := .int .u8 _) rfl rfl rfl (by first | decide | simp) ?_
  refine FS.one (v := .int .u8 _) rfl rfl rfl (by first | decide | simp) ?_
  refine FS.one (v := .int .u8 _) rfl rfl rfl (by first | decide | simp) ?_
  refine FS.one (v := .int .u8 _) rfl rfl rfl (by first | decide | simp) ?_
  exact FS.nil
 clear H; intro b5 w8 hb5 H F
 refine cpP (bs := [0, 0, 0, 0]) H rfl rfl Tryz.underlying30 sz5_1 (RB.allL [0, 0, 0, 0] H rfl) (by decide) (by omega) (by omega) rfl ?_
 clear H; intro w9 H _ hl4
 refine nl ?_
 refine then_n ?_
 refine sq ?_
 refine dr (by kernel_rfl) ?_
 have H := H.drew
 refine hold (fun _ => True) [] ?_
 refine tk (i := 0) rfl (by kernel_rfl) rfl trivial (fun _ _ => r_mv (v := .slice _ _ _) rfl) ?_
 refine tk (i := 1) rfl (by kernel_rfl) rfl trivial (fun _ _ => r_sllhN (20) (4) (492) rfl rfl rfl Tryz.underlying30 sz5_1 (by omega) (by omega)) ?_
 refine unfree ?_
 refine fo (i := 2) (by kernel_rfl) rfl rfl ?_
 refine cl ca70 (c_getZ _) rfl ?_
 rintro _ w10 ⟨b6, rfl, hb6, ho6, F⟩
 replace H := H.new F hb6 ho6; clear F ho6
 refine nl ?_
 refine then_n ?_
 refine fo (i := 3) (by kernel_rfl) rfl rfl ?_
 refine cpP (bs := [0, 0, 0, 0]) H rfl rfl Tryz.underlying30 sz5_1 (RB.allL [0, 0, 0, 0] H rfl) (by decide) (by omega) (by omega) rfl ?_
 clear H; intro w11 H _ hl5
 refine nl ?_
 refine then_n ?_
 refine dn (by kernel_rfl) ?_
 refine then_n ?_
 refine sq ?_
 refine sq ?_
 refine rg ?_
 refine mv (v := .bool _) rfl rfl ?_
 refine nl ?_
 refine then_n ?_
 refine cbT rfl rfl ?_
 refine sq ?_
 refine dr (by kernel_rfl) ?_
 have H := H.drew
 refine hold (fun _ => True) [] ?_
 refine tk (i := 1) rfl (by kernel_rfl) rfl trivial (fun _ _ => r_mv (v := .slice _ _ _) rfl) ?_
 refine tk (i := 2) rfl (by kernel_rfl) rfl trivial (fun _ _ => r_sllhN (24) (8) (488) rfl rfl rfl Tryz.underlying30 sz5_1 (by omega) (by omega)) ?_
 refine tk (i := 3) rfl (by kernel_rfl) rfl trivial (fun _ _ => r_mv (v := .pointer _) rfl) ?_
 refine tk (i := 4) rfl (by kernel_rfl) rfl trivial (fun _ _ => r_nc rfl) ?_
 refine tk (i := 5) rfl (by kernel_rfl) rfl trivial (fun _ _ => r_fa rfl fo106_10) ?_
 refine unfree ?_
 refine holdH H [7] ?_
 refine tk (i := 0) rfl (by kernel_rfl) rfl H (fun w' H => r_lw (vs := []) rfl ag143_0 rfl (by simp)) ?_
 refine tk (i := 6) rfl (by kernel_rfl) rfl H (fun w' H => r_ld H rfl sc28 rfl) ?_
 refine fb (i := 7) (by kernel_rfl) rfl rfl rfl ?_
 refine cl ca71 (c_PutUint64 _ b1 _ _ _ _ _ _ (H.look (b := b1)) (by omega) (by omega) (by omega)) rfl ?_
 rintro _ w12 ⟨rfl, hpl9, F, hnew⟩
 replace H := H.put (b := b1) F hnew; clear F hnew
 refine nl ?_
 refine then_n ?_
 refine dn (by kernel_rfl) ?_
 refine then_n ?_
 refine dr (by kernel_rfl) ?_
 have H := H.drew
 refine hold (fun _ => True) [] ?_
 refine tk (i := 1) rfl (by kernel_rfl) rfl trivial (fun _ _ => r_mv (v := .slice _ _ _) rfl) ?_
 refine tk (i := 2) rfl (by kernel_rfl) rfl trivial (fun _ _ => r_sllhN (32) (8) (480) rfl rfl rfl Tryz.underlying30 sz5_1 (by omega) (by omega)) ?_
 refine tk (i := 3) rfl (by kernel_rfl) rfl trivial (fun _ _ => r_mv (v := .pointer _) rfl) ?_
 refine tk (i := 4) rfl (by kernel_rfl) rfl trivial (fun _ _ => r_nc rfl) ?_
 refine tk (i := 5) rfl (by kernel_rfl) rfl trivial (fun _ _ => r_fa rfl fo106_11) ?_
 refine unfree ?_
 refine holdH H [7] ?_
 refine tk (i := 0) rfl (by kernel_rfl) rfl H (fun w' H => r_lw (vs := []) rfl ag143_0 rfl (by simp)) ?_
 refine tk (i := 6) rfl (by kernel_rfl) rfl H (fun w' H => r_ld H rfl sc28 rfl) ?_
 refine fb (i := 7) (by kernel_rfl) rfl rfl rfl ?_
 refine cl ca71 (c_PutUint64 _ b1 _ _ _ _ _ _ (H.look (b := b1)) (by omega) (by omega) (by omega)) rfl ?_
 rintro _ w13 ⟨rfl, hpl9, F, hnew⟩
 replace H := H.put (b := b1) F hnew; clear F hnew
 refine nl ?_
 refine then_n ?_
 refine dn (by kernel_rfl) ?_
 refine then_n ?_
 refine sq ?_
 refine dr (by kernel_rfl) ?_
 have H := H.drew
 refine hold (fun _ => True) [] ?_
 refine tk (i := 1) rfl (by kernel_rfl) rfl trivial (fun _ _ => r_mv (v := .slice _ _ _) rfl) ?_
 refine tk (i := 2) rfl (by kernel_rfl) rfl trivial (fun _ _ => r_sllhN (40) (8) (472) rfl rfl rfl Tryz.underlying30 sz5_1 (by omega) (by omega)) ?_
 refine tk (i := 3) rfl (by kernel_rfl) rfl trivial (fun _ _ => r_mv (v := .pointer _) rfl) ?_
 refine tk (i := 4) rfl (by kernel_rfl) rfl trivial (fun _ _ => r_nc rfl) ?_
 refine tk (i := 5) rfl (by kernel_rfl) rfl trivial (fun _ _ => r_fa rfl fo106_12) ?_
 refine unfree ?_
 refine holdH H [7] ?_
 refine tk (i := 0) rfl (by kernel_rfl) rfl H (fun w' H => r_lw (vs := []) rfl ag143_0 rfl (by simp)) ?_
 refine tk (i := 6) rfl (by kernel_rfl) rfl H (fun w' H => r_ld H rfl sc28 rfl) ?_
 refine fb (i := 7) (by kernel_rfl) rfl rfl rfl ?_
 refine cl ca71 (c_PutUint64 _ b1 _ _ _ _ _ _ (H.look (b := b1)) (by omega) (by omega) (by omega)) rfl ?_
 rintro _ w14 ⟨rfl, hpl9, F, hnew⟩
 replace H := H.put (b := b1) F hnew; clear F hnew
 refine nl ?_
 refine then_n ?_
 refine dn (by kernel_rfl) ?_
 refine then_n ?_
 refine sq ?_
 refine dr (by kernel_rfl) ?_
 have H := H.drew
 refine hold (fun _ => True) [] ?_
 refine tk (i := 1) rfl (by kernel_rfl) rfl trivial (fun _ _ => r_mv (v := .slice _ _ _) rfl) ?_
 refine tk (i := 2) rfl (by kernel_rfl) rfl trivial (fun _ _ => r_sllhN (48) (8) (464) rfl rfl rfl Tryz.underlying30 sz5_1 (by omega) (by omega)) ?_
 refine tk (i := 3) rfl (by kernel_rfl) rfl trivial (fun _ _ => r_mv (v := .pointer _) rfl) ?_
 refine tk (i := 4) rfl (by kernel_rfl) rfl trivial (fun _ _ => r_nc rfl) ?_
 refine tk (i := 5) rfl (by kernel_rfl) rfl trivial (fun _ _ => r_fa rfl fo106_13) ?_
 refine unfree ?_
 refine holdH H [7] ?_
 refine tk (i := 0) rfl (by kernel_rfl) rfl H (fun w' H => r_lw (vs := []) rfl ag143_0 rfl (by simp)) ?_
 refine tk (i := 6) rfl (by kernel_rfl) rfl H (fun w' H => r_ld H rfl sc28 rfl) ?_
 refine fb (i := 7) (by kernel_rfl) rfl rfl rfl ?_
 refine cl ca71 (c_PutUint64 _ b1 _ _ _ _ _ _ (H.look (b := b1)) (by omega) (by omega) (by omega)) rfl ?_
 rintro _ w15 ⟨rfl, hpl9, F, hnew⟩
 replace H := H.put (b := b1) F hnew; clear F hnew
 refine nl ?_
 refine then_n ?_
 refine dn (by kernel_rfl) ?_
 refine then_n ?_
 refine sq ?_
 refine rg ?_
 refine al H ze138 rfl ?_
 clear H; intro b7 w16 hb7 H _
 refine nl ?_
 refine then_n ?_
 refine sq ?_
 refine sq ?_
 refine rg ?_
 refine mv (v := .pointer _) rfl rfl ?_
 refine nc rfl rfl ?_
 refine fa rfl fo106_3 rfl ?_
 refine ld H rfl sc9 rfl rfl ?_
 refine eqlT rfl rfl rfl ?_
 refine nl ?_
 refine then_n ?_
 refine cF rfl (gu_ne hgu) ?_
 refine sq ?_
 refine rg ?_
 refine asg (v := .nilIface) rfl rfl ?_
 refine nl ?_
 refine then_n ?_
 refine sq ?_
 refine rg ?_
 refine mv (v := .pointer _) rfl rfl ?_
 refine nc rfl rfl ?_
 refine fa rfl fo106_3 rfl ?_
 refine ld H rfl sc9 rfl rfl ?_
 refine cl ca72 (c_parse _ g hgu) rfl ?_
 rintro _ w17 ⟨rfl, F⟩
 replace H := H.keep F; clear F
 refine mv (v := .tuple _) rfl rfl ?_
 refine xt rfl rfl rfl ?_
 refine xt rfl rfl rfl ?_
 refine sa (cs' := Bs (parB g)) H rfl rfl ag138_16 rfl (List.all_eq_true.2 Bs_one) (by show 0 + 16 ≤ 16; decide) (by omega) (List.append_nil _) ?_
 clear H; intro w91 H _
 refine asg (v := .nilIface) rfl rfl ?_
 refine nl ?_
 refine then_n ?_
 refine sq ?_
 refine rg ?_
 refine mv (v := .nilIface) rfl rfl ?_
 refine neqI0 rfl Tryz.underlying73 rfl ?_
 refine nl ?_
 refine then_n ?_
 refine cbF rfl rfl ?_
 refine sk ?_
 refine then_n ?_
 refine sq ?_
 refine dr (by kernel_rfl) ?_
 have H := H.drew
 refine hold (fun _ => True) [] ?_
 refine tk (i := 0) rfl (by kernel_rfl) rfl trivial (fun _ _ => r_mv (v := .slice _ _ _) rfl) ?_
 refine tk (i := 1) rfl (by kernel_rfl) rfl trivial (fun _ _ => r_sllhN (56) (16) (456) rfl rfl rfl Tryz.underlying30 sz5_1 (by omega) (by omega)) ?_
 refine tk (i := 2) rfl (by kernel_rfl) rfl trivial (fun _ _ => r_slYlh rfl rfl rfl Tryz.underlying138 sz5_1 (by first | trivial | omega | (simp; omega))) ?_
 refine unfree ?_
 refine fo (i := 3) (by kernel_rfl) rfl rfl ?_
 refine cl ca73 (c_toUUID _ (some ⟨b7, 0, none⟩) 16 16 (parB g) (RB.allm (b := b7) H rfl) rfl (by decide) ⟨_, _, rfl⟩) rfl ?_
 rintro _ w18 ⟨b8, cq8, jk8, rfl, hb8, ho8, F⟩
 replace H := H.new F hb8 ho8; clear F ho8
 refine nl ?_
 refine then_n ?_
 refine fo (i := 4) (by kernel_rfl) rfl rfl ?_
 refine cpP (bs := gB g) H rfl rfl Tryz.underlying30 sz5_1 (by rw [gB_ok hgu, ← perm_par]; exact RB.bj H (permB_len _)) (by decide) (by omega) (by omega) rfl ?_
 clear H; intro w19 H _ hl6
 refine nl ?_
 refine then_n ?_
 refine dn (by kernel_rfl) ?_
 refine then_n ?_
 refine sq ?_
 refine dr (by kernel_rfl) ?_
 have H := H.drew
 refine hold (fun _ => True) [] ?_
 refine tk (i := 1) rfl (by kernel_rfl) rfl trivial (fun _ _ => r_mv (v := .slice _ _ _) rfl) ?_
 refine tk (i := 2) rfl (by kernel_rfl) rfl trivial (fun _ _ => r_sllhN (72) (8) (440) rfl rfl rfl Tryz.underlying30 sz5_1 (by omega) (by omega)) ?_
 refine tk (i := 3) rfl (by kernel_rfl) rfl trivial (fun _ _ => r_mv (v := .pointer _) rfl) ?_
 refine tk (i := 4) rfl (by kernel_rfl) rfl trivial (fun _ _ => r_mv (v := .bool _) rfl) ?_
 refine unfree ?_
 refine holdH H [6] ?_
 refine tk (i := 0) rfl (by kernel_rfl) rfl H (fun w' H => r_lw (vs := []) rfl ag143_0 rfl (by simp)) ?_
 refine fk (i := 5) (by kernel_rfl) rfl rfl rfl ?_
 refine cl ca54 (c_pas _ t _ _ _ _ _ _ _ _ n hn true (H.look (b := t))) rfl ?_
 rintro _ w20 ⟨rfl, F⟩
 replace H := H.keep F; clear F
 refine nl ?_
 refine then_n ?_
 refine ⟨H, ?_⟩
 refine fb (i := 6) (by kernel_rfl) rfl rfl rfl ?_
 refine cl ca71 (c_PutUint64 _ b1 _ _ _ _ _ _ (H.look (b := b1)) (by omega) (by omega) (by omega)) rfl ?_
 rintro _ w21 ⟨rfl, hpl9, F, hnew⟩
 replace H := H.put (b := b1) F hnew; clear F hnew
 refine nl ?_
 refine then_n ?_
 refine dn (by kernel_rfl) ?_
 refine then_n ?_
 refine sq ?_
 refine dr (by kernel_rfl) ?_
 have H := H.drew
 refine hold (fun _ => True) [] ?_
 refine tk (i := 1) rfl (by kernel_rfl) rfl trivial (fun _ _ => r_mv (v := .slice _ _ _) rfl) ?_
 refine tk (i := 2) rfl (by kernel_rfl) rfl trivial (fun _ _ => r_sllhN (80) (4) (432) rfl rfl rfl Tryz.underlying30 sz5_1 (by omega) (by omega)) ?_
 refine tk (i := 3) rfl (by kernel_rfl) rfl trivial (fun _ _ => r_mv (v := .pointer _) rfl) ?_
 refine tk (i := 4) rfl (by kernel_rfl) rfl trivial (fun _ _ => r_nc rfl) ?_
 refine tk (i := 5) rfl (by kernel_rfl) rfl trivial (fun _ _ => r_fa rfl fo106_6) ?_
 refine unfree ?_
 refine holdH H [8] ?_
 refine tk (i := 0) rfl (by kernel_rfl) rfl H (fun w' H => r_lw (vs := []) rfl ag143_0 rfl (by simp)) ?_
 refine fk (i := 6) (by kernel_rfl) rfl rfl rfl ?_
 refine ld H rfl sc3 rfl rfl ?_
 refine nl ?_
 refine then_n ?_
 refine ⟨H, ?_⟩
 refine tk (i := 7) rfl (by kernel_rfl) rfl H (fun w' H => r_cvi rfl rfl Tryz.underlying58 (by first | exact w_u32 (by omega) | exact w_u32 (rng_u32 _) | exact m_u32 _)) ?_
 refine fb (i := 8) (by kernel_rfl) rfl rfl rfl ?_
 refine cl ca74 (c_PutUint32 _ b1 _ _ _ _ _ _ (H.look (b := b1)) (by omega) (by omega) (by omega)) rfl ?_
 rintro _ w22 ⟨rfl, hpl9, F, hnew⟩
 replace H := H.put (b := b1) F hnew; clear F hnew
 refine nl ?_
 refine then_n ?_
 refine dn (by kernel_rfl) ?_
 refine then_n ?_
 refine sq ?_
 refine dr (by kernel_rfl) ?_
 have H := H.drew
 refine hold (fun _ => True) [] ?_
 refine tk (i := 1) rfl (by kernel_rfl) rfl trivial (fun _ _ => r_mv (v := .slice _ _ _) rfl) ?_
 refine tk (i := 2) rfl (by kernel_rfl) rfl trivial (fun _ _ => r_sllhN (84) (4) (428) rfl rfl rfl Tryz.underlying30 sz5_1 (by omega) (by omega)) ?_
 refine unfree ?_
 refine holdH H [3] ?_
 refine tk (i := 0) rfl (by kernel_rfl) rfl H (fun w' H => r_lw (vs := []) rfl ag143_0 rfl (by simp)) ?_
 refine fb (i := 3) (by kernel_rfl) rfl rfl rfl ?_
 refine cl ca74 (c_PutUint32 _ b1 _ _ _ _ _ _ (H.look (b := b1)) (by omega) (by omega) (by omega)) rfl ?_
 rintro _ w23 ⟨rfl, hpl9, F, hnew⟩
 replace H := H.put (b := b1) F hnew; clear F hnew
 refine nl ?_
 refine then_n ?_
 refine dn (by kernel_rfl) ?_
 refine then_n ?_
 refine sq ?_
 refine rg ?_
 have hcl : (pAt (pAt (pAt (pAt (pAt (pAt (pAt (pAt (pAt (pAt (pAt (pAt (pAt (List.replicate 512 0) 0 (efiL)) 8 ([0, 0, 1, 0])) 12 ([92, 0, 0, 0])) 16 ([0, 0, 0, 0])) 20 ([0, 0, 0, 0])) 24 (leB 8 1)) 32 (leB 8 ((n : Int) - 1))) 40 (leB 8 34)) 48 (leB 8 ((n : Int) - 34))) 56 (gB g)) 72 (leB 8 2)) 80 (leB 4 128)) 84 (leB 4 128)).length = 512 := hpl9.trans (by omega)
 replace H : SH w (l.map Prod.fst) _ ([⟨b1, .cells (Bs (pAt (pAt (pAt (pAt (pAt (pAt (pAt (pAt (pAt (pAt (pAt (pAt (pAt (List.replicate 512 0) 0 (efiL)) 8 ([0, 0, 1, 0])) 12 ([92, 0, 0, 0])) 16 ([0, 0, 0, 0])) 20 ([0, 0, 0, 0])) 24 (leB 8 1)) 32 (leB 8 ((n : Int) - 1))) 40 (leB 8 34)) 48 (leB 8 ((n : Int) - 34))) 56 (gB g)) 72 (leB 8 2)) 80 (leB 4 128)) 84 (leB 4 128))).toArray 5 (0, 0), true⟩] ++ (⟨t, .cells (tbC D m cap 512 512 g pr rb 128 128 frm crc 1 ((n : Int) - 1) 34 ((n : Int) - 34) true).toArray 106 (0, 0), false⟩ :: ents 126 l)) := H.subX
 have hrow5 : ∀ j x, l[j]? = some x → ∃ ad, D = some ad ∧ World.cell? _ (ad.add j) = some (.pointer (some ⟨x.1, 0, none⟩)) := fun j x hx => by
  obtain ⟨ad, e, hc⟩ := hrow j x hx
  exact ⟨ad, e, H.fr.cell hc (by rw [add_block]; exact hDn _ e)⟩
 refine mv (v := .pointer _) rfl rfl ?_
 refine cl ca53 (c_partArr _ t _ _ _ _ _ _ _ _ _ _ _ _ _ l ps y1 y2 hsnd hlen hrow5 hDn n hg hn hok hft hm (H.rebase rfl)) rfl ?_
 rintro _ w24 ⟨q, l2, rfl, hb2, hs2, K⟩
 replace H := H.joinE (A := [_, _]) (Y := [_]) K hb2 (by simp)
 replace H : SH w (l.map Prod.fst) w24 (_ :: _ :: _ :: ents 126 l2) := H
 refine mv (v := .tuple _) rfl rfl ?_
 refine xt rfl rfl rfl ?_
 refine xt rfl rfl rfl ?_
 refine asg (v := .slice _ _ _) rfl rfl ?_
 refine asg (v := .nilIface) rfl rfl ?_
 refine nl ?_
 refine then_n ?_
 refine sq ?_
 refine sq ?_
 refine rg ?_
 refine mv (v := .nilIface) rfl rfl ?_
 refine neqI0 rfl Tryz.underlying73 rfl ?_
 refine nl ?_
 refine then_n ?_
 refine cbF rfl rfl ?_
 refine sk ?_
 refine then_n ?_
 refine sq ?_
 refine rg ?_
 refine mv (v := .slice _ _ _) rfl rfl ?_
 refine cl ca75 (c_zzCrc _ _ _ _ (arrB ps) (RB.allm (b := q) H hal) (by decide)) rfl ?_
 rintro _ w25 ⟨rfl, F⟩
 replace H := H.keep F; clear F
 refine asg (v := .int .u32 _) rfl rfl ?_
 refine nl ?_
 refine then_n ?_
 refine sq ?_
 refine dr (by kernel_rfl) ?_
 have H := H.drew
 refine hold (fun _ => True) [] ?_
 refine tk (i := 1) rfl (by kernel_rfl) rfl trivial (fun _ _ => r_mv (v := .slice _ _ _) rfl) ?_
 refine tk (i := 2) rfl (by kernel_rfl) rfl trivial (fun _ _ => r_sllhN (88) (4) (424) rfl rfl rfl Tryz.underlying30 sz5_1 (by omega) (by omega)) ?_
 refine tk (i := 3) rfl (by kernel_rfl) rfl trivial (fun _ _ => r_mv (v := .int .u32 _) rfl) ?_
 refine unfree ?_
 refine holdH H [4] ?_
 refine tk (i := 0) rfl (by kernel_rfl) rfl H (fun w' H => r_lw (vs := []) rfl ag143_0 rfl (by simp)) ?_
 refine fb (i := 4) (by kernel_rfl) rfl rfl rfl ?_
 refine cl ca74 (c_PutUint32 _ b1 _ _ _ _ _ _ (H.look (b := b1)) (by omega) (by omega) (by omega)) rfl ?_
 rintro _ w26 ⟨rfl, hpl9, F, hnew⟩
 replace H := H.put (b := b1) F hnew; clear F hnew
 refine nl ?_
 refine then_n ?_
 refine dn (by kernel_rfl) ?_
 refine then_n ?_
 refine sq ?_
 refine rg ?_
 rw [hdr_put2 (gB_len g)] at H
 refine mv (v := .slice _ _ _) rfl rfl ?_
 refine sllhN (0) (92) (512) rfl rfl rfl Tryz.underlying30 sz5_1 (by omega) (by omega) rfl ?_
 refine cl ca75 (c_zzCrc _ _ _ _ (hdrS 0 1 ((n : Int) - 1) 2 (n : Int) (gB g) (crc32 (arrB ps))) (by have e := RB.of (b := b1) (o := 0) (n := 92) H (by rw [List.length_append, hdrS_len hgl, List.length_replicate]; decide); rw [hdr_take hgl] at e; exact e) (by decide)) rfl ?_
 rintro _ w27 ⟨rfl, F⟩
 replace H := H.keep F; clear F
 have hcr2 := hdrS_rng (hdrS 0 1 ((n : Int) - 1) 2 (n : Int) (gB g) (crc32 (arrB ps)))
 have hl7 : (hdrS 0 1 ((n : Int) - 1) 2 (n : Int) (gB g) (crc32 (arrB ps)) ++ List.replicate 420 0).length = 512 := by rw [List.length_append, hdrS_len hgl, List.length_replicate]
 refine asg (v := .int .u32 _) rfl rfl ?_
 refine nl ?_
 refine then_n ?_
 refine sq ?_
 refine dr (by kernel_rfl) ?_
 have H := H.drew
 refine hold (fun _ => True) [] ?_
 refine tk (i := 1) rfl (by kernel_rfl) rfl trivial (fun _ _ => r_mv (v := .slice _ _ _) rfl) ?_
 refine tk (i := 2) rfl (by kernel_rfl) rfl trivial (fun _ _ => r_sllhN (16) (4) (496) rfl rfl rfl Tryz.underlying30 sz5_1 (by omega) (by omega)) ?_
 refine tk (i := 3) rfl (by kernel_rfl) rfl trivial (fun _ _ => r_mv (v := .int .u32 _) rfl) ?_
 refine unfree ?_
 refine holdH H [4] ?_
 refine tk (i := 0) rfl (by kernel_rfl) rfl H (fun w' H => r_lw (vs := []) rfl ag143_0 rfl (by simp)) ?_
 refine fb (i := 4) (by kernel_rfl) rfl rfl rfl ?_
 refine cl ca74 (c_PutUint32 _ b1 _ _ _ _ _ _ (H.look (b := b1)) (by omega) (by omega) (by omega)) rfl ?_
 rintro _ w28 ⟨rfl, hpl9, F, hnew⟩
 replace H := H.put (b := b1) F hnew; clear F hnew
 refine nl ?_
 refine then_n ?_
 refine dn (by kernel_rfl) ?_
 refine then_n ?_
 refine sq ?_
 refine sq ?_
 refine rg ?_
 rw [hdr_sum (gB_len g)] at H
 replace H := sh_cells1 (cs' := Bs (hdrB 1 ((n : Int) - 1) 2 (n : Int) (gB g) (crc32 (arrB ps)))) H rfl
 refine asg (v := .int .i64 _) rfl rfl ?_
 refine nl ?_
 refine then_n ?_
 refine bk ?_
 refine lpM (α := Nat) [12, 155, 156, 157, 158, 159, 160, 161, 162, 163, 164, 165] (fun i => [(12, .int .i64 (i : Int))]) (fun i w' => 92 ≤ i ∧ i ≤ 512 ∧ SH w (l.map Prod.fst) w' (⟨b1, .cells (Bs (hdrB 1 ((n : Int) - 1) 2 (n : Int) (gB g) (crc32 (arrB ps)))).toArray 5 (0, 0), true⟩ :: ⟨t, .cells (tbC D m cap 512 512 g pr rb 128 128 frm crc 1 ((n : Int) - 1) 34 ((n : Int) - 34) true).toArray 106 (0, 0), false⟩ :: ents 126 l2)) (fun i => 512 - i) 92 ?_ (fCX (fN _)) ?_
 ·exact ⟨by omega, by omega, H.subX⟩
 ·rintro i ρx w29 ⟨hi1, hi, H⟩
  have hhl : (hdrB 1 ((n : Int) - 1) 2 (n : Int) (gB g) (crc32 (arrB ps))).length = 512 := hdrB_len hgl
  refine sq ?_
  refine sq ?_
  refine rg ?_
  refine mv (v := .int .i64 _) rfl rfl ?_
  refine mv (v := .pointer _) rfl rfl ?_
  refine nc rfl rfl ?_
  refine fa rfl fo106_1 rfl ?_
  refine ld H rfl sc3 rfl rfl ?_
  refine lss rfl rfl rfl ?_
  refine nl ?_
  refine then_n ?_
  refine cd rfl (fun hc5 => ?_) (fun hc5 => ?_)
  ·refine sk ?_
   refine then_n ?_
   refine sq ?_
   refine bk ?_
   refine rg ?_
   refine mv (v := .slice _ _ _) rfl rfl ?_
   refine mv (v := .int .i64 _) rfl rfl ?_
   refine iaN (i) rfl rfl Tryz.underlying30 sz5_1 (by omega) (by omega) rfl ?_
   refine stb H rfl rfl sc5 (by decide) (by omega) (by omega) ?_
   clear H; intro w92 H _
   refine nl ?_
   refine in_n ?_
   refine then_n ?_
   refine rg ?_
   refine mv (v := .int .i64 _) rfl rfl ?_
   refine add rfl rfl (by first | exact w_i64 (by omega) | exact w_i64 (rng_i64 _) | rfl) rfl ?_
   refine asg (v := .int .i64 _) rfl rfl ?_
   refine nl ?_
   refine loop_n ?_
   exact ⟨i + 1, (by (try dsimp only); omega), ⟨by omega, by omega, by rw [hdr_zero hgl ⟨by omega, by omega⟩] at H; exact H⟩, (fCX (fN _)), agX⟩
  ·refine ex ?_
   refine then_e ?_
   refine loop_e ?_
   refine in_hit rfl ?_
   refine then_n ?_
   refine sq ?_
   refine rg ?_
   refine mv (v := .slice _ _ _) rfl rfl ?_
   refine asg (v := .slice _ _ _) rfl rfl ?_
   refine asg (v := .nilIface) rfl rfl ?_
   refine nl ?_
   refine then_n ?_
   refine rt ?_
   refine fin_r ?_
   exact ⟨b1, l2, rfl, hb2, hs2, H.subX⟩
set_option maxRecDepth 100000 in
set_option maxHeartbeats 8000000 in
theorem c_toGptF (w : World) (t : Nat) (D : Option Addr) (m cap : Nat) (g : List UInt8) (pr rb : Bool) (frm crc : Int) (n : Nat) (hn : 80 ≤ n ∧ n ≤ 1000000) (l : PL) (ps : List GP) (y1 y2 : Value) (hsnd : l.map Prod.snd = ps.map (pcY y1 y2)) (hlen : l.length = m) (hrow : ∀ j x, l[j]? = some x → ∃ ad, D = some ad ∧ w.cell? (ad.add j) = some (.pointer (some ⟨x.1, 0, none⟩))) (hDn : ∀ ad, D = some ad → ad.block ∉ l.map Prod.fst) (hg : goodL n ps) (hok : ∀ p ∈ ps, p.ok) (hft : ∀ p ∈ ps, p.fit) (hm : m ≤ 200) (hgu : gOk g = true) (H0 : SH w (l.map Prod.fst) w (⟨t, .cells (tbC D m cap 512 512 g pr rb 128 128 frm crc 1 ((n : Int) - 1) 34 ((n : Int) - 34) true).toArray 106 (0, 0), false⟩ :: ents 126 l)) : Calls Tryz.prog 52 #[.pointer (some ⟨t, 0, none⟩), .bool false] w (Ret fun v w' => ∃ q l', v = .tuple #[.slice (some ⟨q, 0, none⟩) 512 512, .nilIface] ∧ l'.map Prod.fst = l.map Prod.fst ∧ l'.map Prod.snd = (ps.map upG).map (pcY y1 y2) ∧ SH w (l.map Prod.fst) w' (⟨q, .cells (Bs (hdrB ((n : Int) - 1) 1 ((n : Int) - 33) (n : Int) (gB g) (crc32 (arrB ps)))).toArray 5 (0, 0), true⟩ :: ents 126 l')) := by
 refine enter (fun ρ => .tuple #[ρ 4, ρ 5]) Tryz.func52 rfl rfl rfl (res2 rfl) ?_
 have H := H0
 have h0 : (List.replicate 512 (0 : UInt8)).length = 512 := List.length_replicate
 have hgl := gB_len g
 have hfs : ∀ p ∈ ps, p.fits := fun p hp => (hg.1 p hp).fits
 have hal := arrB_len hfs
 have hcr := hdrS_rng (arrB ps)
 refine sq ?_
 refine rg ?_
 refine asg (v := .slice _ _ _) rfl rfl ?_
 refine asg (v := .nilIface) rfl rfl ?_
 refine nl ?_
 refine then_n ?_
 refine sq ?_
 refine rg ?_
 refine mv (v := .pointer _) rfl rfl ?_
 refine nc rfl rfl ?_
 refine fa rfl fo106_1 rfl ?_
 refine ld H rfl sc3 rfl rfl ?_
 refine mkB H rfl rfl Tryz.underlying30 mi5 (by omega) (by omega) (by omega) (by omega) rfl ?_
 clear H; intro b1 w1 hb1 H _
 replace H := sh_cells0 (cs' := Bs (List.replicate 512 0)) H rfl
 refine asg (v := .slice _ _ _) rfl rfl ?_
 refine nl ?_
 refine then_n ?_
 refine sq ?_
 refine dr (by kernel_rfl) ?_
 have H := H.drew
 refine hold (fun _ => True) [] ?_
 refine tk (i := 0) rfl (by kernel_rfl) rfl trivial (fun _ _ => r_mv (v := .slice _ _ _) rfl) ?_
 refine tk (i := 1) rfl (by kernel_rfl) rfl trivial (fun _ _ => r_sllhN (0) (8) (512) rfl rfl rfl Tryz.underlying30 sz5_1 (by omega) (by omega)) ?_
 refine unfree ?_
 refine fo (i := 2) (by kernel_rfl) rfl rfl ?_
 refine cl ca67 (c_getSig _) rfl ?_
 rintro _ w2 ⟨b2, rfl, hb2, ho2, F⟩
 replace H := H.new F hb2 ho2; clear F ho2
 refine nl ?_
 refine then_n ?_
 refine fo (i := 3) (by kernel_rfl) rfl rfl ?_
 refine cpP (bs := efiL) H rfl rfl Tryz.underlying30 sz5_1 (RB.allL efiL H rfl) (by decide) (by omega) (by omega) rfl ?_
 clear H; intro w3 H _ hl1
 refine nl ?_
 refine then_n ?_
 refine dn (by kernel_rfl) ?_
 refine then_n ?_
 refine sq ?_
 refine dr (by kernel_rfl) ?_
 have H := H.drew
 refine hold (fun _ => True) [] ?_
 refine tk (i := 0) rfl (by kernel_rfl) rfl trivial (fun _ _ => r_mv (v := .slice _ _ _) rfl) ?_
 refine tk (i := 1) rfl (by kernel_rfl) rfl trivial (fun _ _ => r_sllhN (8) (4) (504) rfl rfl rfl Tryz.underlying30 sz5_1 (by omega) (by omega)) ?_
 refine unfree ?_
 refine fo (i := 2) (by kernel_rfl) rfl rfl ?_
 refine cl ca68 (c_getRev _) rfl ?_
 rintro _ w4 ⟨b3, rfl, hb3, ho3, F⟩
 replace H := H.new F hb3 ho3; clear F ho3
 refine nl ?_
 refine then_n ?_
 refine fo (i := 3) (by kernel_rfl) rfl rfl ?_
 refine cpP (bs := [0, 0, 1, 0]) H rfl rfl Tryz.underlying30 sz5_1 (RB.allL [0, 0, 1, 0] H rfl) (by decide) (by omega) (by omega) rfl ?_
 clear H; intro w5 H _ hl2
 refine nl ?_
 refine then_n ?_
 refine dn (by kernel_rfl) ?_
 refine then_n ?_
 refine sq ?_
 refine dr (by kernel_rfl) ?_
 have H := H.drew
 refine hold (fun _ => True) [] ?_
 refine tk (i := 0) rfl (by kernel_rfl) rfl trivial (fun _ _ => r_mv (v := .slice _ _ _) rfl) ?_
 refine tk (i := 1) rfl (by kernel_rfl) rfl trivial (fun _ _ => r_sllhN (12) (4) (500) rfl rfl rfl Tryz.underlying30 sz5_1 (by omega) (by omega)) ?_
 refine unfree ?_
 refine fo (i := 2) (by kernel_rfl) rfl rfl ?_
 refine cl ca69 (c_getHs _) rfl ?_
 rintro _ w6 ⟨b4, rfl, hb4, ho4, F⟩
 replace H := H.new F hb4 ho4; clear F ho4
 refine nl ?_
 refine then_n ?_
 refine fo (i := 3) (by kernel_rfl) rfl rfl ?_
 refine cpP (bs := [92, 0, 0, 0]) H rfl rfl Tryz.underlying30 sz5_1 (RB.allL [92, 0, 0, 0] H rfl) (by decide) (by omega) (by omega) rfl ?_
 clear H; intro w7 H _ hl3
 refine nl ?_
 refine then_n ?_
 refine dn (by kernel_rfl) ?_
 refine then_n ?_
 refine sq ?_
 refine rg ?_
 refine mv (v := .slice _ _ _) rfl rfl ?_
 refine sllhN (16) (4) (496) rfl rfl rfl Tryz.underlying30 sz5_1 (by omega) (by omega) rfl ?_
 refine bsl (sz := 1) (out := ?o1) H Tryz.underlying30 ze5 sz5_1 (by decide) ?f1 rfl ?_
 case f1 =>
  refine FS.one (v := .int .u8 _) rfl rfl rfl (by first | decide | simp) ?_
  refine FS.one (v := .int .u8 _) rfl rfl rfl (by first | decide | simp) ?_
  refine FS.one (v := .int .u8 _) rfl rfl rfl (by first | decide | simp) ?_
  refine FS.one (v := .int .u8 _) rfl rfl rfl (by first | decide | simp) ?_
  exact FS.nil
 clear H; intro b5 w8 hb5 H F
 refine cpP (bs := [0, 0, 0, 0]) H rfl rfl Tryz.underlying30 sz5_1 (RB.allL [0, 0, 0, 0] H rfl) (by decide) (by omega) (by omega) rfl ?_
 clear H; intro w9 H _ hl4
 refine nl ?_
 refine then_n ?_
 refine sq ?_
 refine dr (by kernel_rfl) ?_
 have H := H.drew
 refine hold (fun _ => True) [] ?_
 refine tk (i := 0) rfl (by kernel_rfl) rfl trivial (fun _ _ => r_mv (v := .slice _ _ _) rfl) ?_
 refine tk (i := 1) rfl (by kernel_rfl) rfl trivial (fun _ _ => r_sllhN (20) (4) (492) rfl rfl rfl Tryz.underlying30 sz5_1 (by omega) (by omega)) ?_
 refine unfree ?_
 refine fo (i := 2) (by kernel_rfl) rfl rfl ?_
 refine cl ca70 (c_getZ _) rfl ?_
 rintro _ w10 ⟨b6, rfl, hb6, ho6, F⟩
 replace H := H.new F hb6 ho6; clear F ho6
 refine nl ?_
 refine then_n ?_
 refine fo (i := 3) (by kernel_rfl) rfl rfl ?_
 refine cpP (bs := [0, 0, 0, 0]) H rfl rfl Tryz.underlying30 sz5_1 (RB.allL [0, 0, 0, 0] H rfl) (by decide) (by omega) (by omega) rfl ?_
 clear H; intro w11 H _ hl5
 refine nl ?_
 refine then_n ?_
 refine dn (by kernel_rfl) ?_
 refine then_n ?_
 refine sq ?_
 refine sq ?_
 refine rg ?_
 refine mv (v := .bool _) rfl rfl ?_
 refine nl ?_
 refine then_n ?_
 refine cbF rfl rfl ?_
 refine sq ?_
 refine dr (by kernel_rfl) ?_
 have H := H.drew
 refine hold (fun _ => True) [] ?_
 refine tk (i := 1) rfl (by kernel_rfl) rfl trivial (fun _ _ => r_mv (v := .slice _ _ _) rfl) ?_
 refine tk (i := 2) rfl (by kernel_rfl) rfl trivial (fun _ _ => r_sllhN (24) (8) (488) rfl rfl rfl Tryz.underlying30 sz5_1 (by omega) (by omega)) ?_
 refine tk (i := 3) rfl (by kernel_rfl) rfl trivial (fun _ _ => r_mv (v := .pointer _) rfl) ?_
 refine tk (i := 4) rfl (by kernel_rfl) rfl trivial (fun _ _ => r_nc rfl) ?_
 refine tk (i := 5) rfl (by kernel_rfl) rfl trivial (fun _ _ => r_fa rfl fo106_11) ?_
 refine unfree ?_
 refine holdH H [7] ?_
 refine tk (i := 0) rfl (by kernel_rfl) rfl H (fun w' H => r_lw (vs := []) rfl ag143_0 rfl (by simp)) ?_
 refine tk (i := 6) rfl (by kernel_rfl) rfl H (fun w' H => r_ld H rfl sc28 rfl) ?_
 refine fb (i := 7) (by kernel_rfl) rfl rfl rfl ?_
 refine cl ca71 (c_PutUint64 _ b1 _ _ _ _ _ _ (H.look (b := b1)) (by omega) (by omega) (by omega)) rfl ?_
 rintro _ w12 ⟨rfl, hpl9, F, hnew⟩
 replace H := H.put (b := b1) F hnew; clear F hnew
 refine nl ?_
 refine then_n ?_
 refine dn (by kernel_rfl) ?_
 refine then_n ?_
 refine dr (by kernel_rfl) ?_
 have H := H.drew
 refine hold (fun _ => True) [] ?_
 refine tk (i := 1) rfl (by kernel_rfl) rfl trivial (fun _ _ => r_mv (v := .slice _ _ _) rfl) ?_
 refine tk (i := 2) rfl (by kernel_rfl) rfl trivial (fun _ _ => r_sllhN (32) (8) (480) rfl rfl rfl Tryz.underlying30 sz5_1 (by omega) (by omega)) ?_
 refine tk (i := 3) rfl (by kernel_rfl) rfl trivial (fun _ _ => r_mv (v := .pointer _) rfl) ?_
 refine tk (i := 4) rfl (by kernel_rfl) rfl trivial (fun _ _ => r_nc rfl) ?_
 refine tk (i := 5) rfl (by kernel_rfl) rfl trivial (fun _ _ => r_fa rfl fo106_10) ?_
 refine unfree ?_
 refine holdH H [7] ?_
 refine tk (i := 0) rfl (by kernel_rfl) rfl H (fun w' H => r_lw (vs := []) rfl ag143_0 rfl (by simp)) ?_
 refine tk (i := 6) rfl (by kernel_rfl) rfl H (fun w' H => r_ld H rfl sc28 rfl) ?_
 refine fb (i := 7) (by kernel_rfl) rfl rfl rfl ?_
 refine cl ca71 (c_PutUint64 _ b1 _ _ _ _ _ _ (H.look (b := b1)) (by omega) (by omega) (by omega)) rfl ?_
 rintro _ w13 ⟨rfl, hpl9, F, hnew⟩
 replace H := H.put (b := b1) F hnew; clear F hnew
 refine nl ?_
 refine then_n ?_
 refine dn (by kernel_rfl) ?_
 refine then_n ?_
 refine sq ?_
 refine dr (by kernel_rfl) ?_
 have H := H.drew
 refine hold (fun _ => True) [] ?_
 refine tk (i := 1) rfl (by kernel_rfl) rfl trivial (fun _ _ => r_mv (v := .slice _ _ _) rfl) ?_
 refine tk (i := 2) rfl (by kernel_rfl) rfl trivial (fun _ _ => r_sllhN (40) (8) (472) rfl rfl rfl Tryz.underlying30 sz5_1 (by omega) (by omega)) ?_
 refine tk (i := 3) rfl (by kernel_rfl) rfl trivial (fun _ _ => r_mv (v := .pointer _) rfl) ?_
 refine tk (i := 4) rfl (by kernel_rfl) rfl trivial (fun _ _ => r_nc rfl) ?_
 refine tk (i := 5) rfl (by kernel_rfl) rfl trivial (fun _ _ => r_fa rfl fo106_12) ?_
 refine unfree ?_
 refine holdH H [7] ?_
 refine tk (i := 0) rfl (by kernel_rfl) rfl H (fun w' H => r_lw (vs := []) rfl ag143_0 rfl (by simp)) ?_
 refine tk (i := 6) rfl (by kernel_rfl) rfl H (fun w' H => r_ld H rfl sc28 rfl) ?_
 refine fb (i := 7) (by kernel_rfl) rfl rfl rfl ?_
 refine cl ca71 (c_PutUint64 _ b1 _ _ _ _ _ _ (H.look (b := b1)) (by omega) (by omega) (by omega)) rfl ?_
 rintro _ w14 ⟨rfl, hpl9, F, hnew⟩
 replace H := H.put (b := b1) F hnew; clear F hnew
 refine nl ?_
 refine then_n ?_
 refine dn (by kernel_rfl) ?_
 refine then_n ?_
 refine sq ?_
 refine dr (by kernel_rfl) ?_
 have H := H.drew
 refine hold (fun _ => True) [] ?_
 refine tk (i := 1) rfl (by kernel_rfl) rfl trivial (fun _ _ => r_mv (v := .slice _ _ _) rfl) ?_
 refine tk (i := 2) rfl (by kernel_rfl) rfl trivial (fun _ _ => r_sllhN (48) (8) (464) rfl rfl rfl Tryz.underlying30 sz5_1 (by omega) (by omega)) ?_
 refine tk (i := 3) rfl (by kernel_rfl) rfl trivial (fun _ _ => r_mv (v := .pointer _) rfl) ?_
 refine tk (i := 4) rfl (by kernel_rfl) rfl trivial (fun _ _ => r_nc rfl) ?_
 refine tk (i := 5) rfl (by kernel_rfl) rfl trivial (fun _ _ => r_fa rfl fo106_13) ?_
 refine unfree ?_
 refine holdH H [7] ?_
 refine tk (i := 0) rfl (by kernel_rfl) rfl H (fun w' H => r_lw (vs := []) rfl ag143_0 rfl (by simp)) ?_
 refine tk (i := 6) rfl (by kernel_rfl) rfl H (fun w' H => r_ld H rfl sc28 rfl) ?_
 refine fb (i := 7) (by kernel_rfl) rfl rfl rfl ?_
 refine cl ca71 (c_PutUint64 _ b1 _ _ _ _ _ _ (H.look (b := b1)) (by omega) (by omega) (by omega)) rfl ?_
 rintro _ w15 ⟨rfl, hpl9, F, hnew⟩
 replace H := H.put (b := b1) F hnew; clear F hnew
 refine nl ?_
 refine then_n ?_
 refine dn (by kernel_rfl) ?_
 refine then_n ?_
 refine sq ?_
 refine rg ?_
 refine al H ze138 rfl ?_
 clear H; intro b7 w16 hb7 H _
 refine nl ?_
 refine then_n ?_
 refine sq ?_
 refine sq ?_
 refine rg ?_
 refine mv (v := .pointer _) rfl rfl ?_
 refine nc rfl rfl ?_
 refine fa rfl fo106_3 rfl ?_
 refine ld H rfl sc9 rfl rfl ?_
 refine eqlT rfl rfl rfl ?_
 refine nl ?_
 refine then_n ?_
 refine cF rfl (gu_ne hgu) ?_
 refine sq ?_
 refine rg ?_
 refine asg (v := .nilIface) rfl rfl ?_
 refine nl ?_
 refine then_n ?_
 refine sq ?_
 refine rg ?_
 refine mv (v := .pointer _) rfl rfl ?_
 refine nc rfl rfl ?_
 refine fa rfl fo106_3 rfl ?_
 refine ld H rfl sc9 rfl rfl ?_
 refine cl ca72 (c_parse _ g hgu) rfl ?_
 rintro _ w17 ⟨rfl, F⟩
 replace H := H.keep F; clear F
 refine mv (v := .tuple _) rfl rfl ?_
 refine xt rfl rfl rfl ?_
 refine xt rfl rfl rfl ?_
 refine sa (cs' := Bs (parB g)) H rfl rfl ag138_16 rfl (List.all_eq_true.2 Bs_one) (by show 0 + 16 ≤ 16; decide) (by omega) (List.append_nil _) ?_
 clear H; intro w91 H _
 refine asg (v := .nilIface) rfl rfl ?_
 refine nl ?_
 refine then_n ?_
 refine sq ?_
 refine rg ?_
 refine mv (v := .nilIface) rfl rfl ?_
 refine neqI0 rfl Tryz.underlying73 rfl ?_
 refine nl ?_
 refine then_n ?_
 refine cbF rfl rfl ?_
 refine sk ?_
 refine then_n ?_
 refine sq ?_
 refine dr (by kernel_rfl) ?_
 have H := H.drew
 refine hold (fun _ => True) [] ?_
 refine tk (i := 0) rfl (by kernel_rfl) rfl trivial (fun _ _ => r_mv (v := .slice _ _ _) rfl) ?_
 refine tk (i := 1) rfl (by kernel_rfl) rfl trivial (fun _ _ => r_sllhN (56) (16) (456) rfl rfl rfl Tryz.underlying30 sz5_1 (by omega) (by omega)) ?_
 refine tk (i := 2) rfl (by kernel_rfl) rfl trivial (fun _ _ => r_slYlh rfl rfl rfl Tryz.underlying138 sz5_1 (by first | trivial | omega | (simp; omega))) ?_
 refine unfree ?_
 refine fo (i := 3) (by kernel_rfl) rfl rfl ?_
 refine cl ca73 (c_toUUID _ (some ⟨b7, 0, none⟩) 16 16 (parB g) (RB.allm (b := b7) H rfl) rfl (by decide) ⟨_, _, rfl⟩) rfl ?_
 rintro _ w18 ⟨b8, cq8, jk8, rfl, hb8, ho8, F⟩
 replace H := H.new F hb8 ho8; clear F ho8
 refine nl ?_
 refine then_n ?_
 refine fo (i := 4) (by kernel_rfl) rfl rfl ?_
 refine cpP (bs := gB g) H rfl rfl Tryz.underlying30 sz5_1 (by rw [gB_ok hgu, ← perm_par]; exact RB.bj H (permB_len _)) (by decide) (by omega) (by omega) rfl ?_
 clear H; intro w19 H _ hl6
 refine nl ?_
 refine then_n ?_
 refine dn (by kernel_rfl) ?_
 refine then_n ?_
 refine sq ?_
 refine dr (by kernel_rfl) ?_
 have H := H.drew
 refine hold (fun _ => True) [] ?_
 refine tk (i := 1) rfl (by kernel_rfl) rfl trivial (fun _ _ => r_mv (v := .slice _ _ _) rfl) ?_
 refine tk (i := 2) rfl (by kernel_rfl) rfl trivial (fun _ _ => r_sllhN (72) (8) (440) rfl rfl rfl Tryz.underlying30 sz5_1 (by omega) (by omega)) ?_
 refine tk (i := 3) rfl (by kernel_rfl) rfl trivial (fun _ _ => r_mv (v := .pointer _) rfl) ?_
 refine tk (i := 4) rfl (by kernel_rfl) rfl trivial (fun _ _ => r_mv (v := .bool _) rfl) ?_
 refine unfree ?_
 refine holdH H [6] ?_
 refine tk (i := 0) rfl (by kernel_rfl) rfl H (fun w' H => r_lw (vs := []) rfl ag143_0 rfl (by simp)) ?_
 refine fk (i := 5) (by kernel_rfl) rfl rfl rfl ?_
 refine cl ca54 (c_pas _ t _ _ _ _ _ _ _ _ n hn false (H.look (b := t))) rfl ?_
 rintro _ w20 ⟨rfl, F⟩
 replace H := H.keep F; clear F
 refine nl ?_
 refine then_n ?_
 refine ⟨H, ?_⟩
 refine fb (i := 6) (by kernel_rfl) rfl rfl rfl ?_
 refine cl ca71 (c_PutUint64 _ b1 _ _ _ _ _ _ (H.look (b := b1)) (by omega) (by omega) (by omega)) rfl ?_
 rintro _ w21 ⟨rfl, hpl9, F, hnew⟩
 replace H := H.put (b := b1) F hnew; clear F hnew
 refine nl ?_
 refine then_n ?_
 refine dn (by kernel_rfl) ?_
 refine then_n ?_
 refine sq ?_
 refine dr (by kernel_rfl) ?_
 have H := H.drew
 refine hold (fun _ => True) [] ?_
 refine tk (i := 1) rfl (by kernel_rfl) rfl trivial (fun _ _ => r_mv (v := .slice _ _ _) rfl) ?_
 refine tk (i := 2) rfl (by kernel_rfl) rfl trivial (fun _ _ => r_sllhN (80) (4) (432) rfl rfl rfl Tryz.underlying30 sz5_1 (by omega) (by omega)) ?_
 refine tk (i := 3) rfl (by kernel_rfl) rfl trivial (fun _ _ => r_mv (v := .pointer _) rfl) ?_
 refine tk (i := 4) rfl (by kernel_rfl) rfl trivial (fun _ _ => r_nc rfl) ?_
 refine tk (i := 5) rfl (by kernel_rfl) rfl trivial (fun _ _ => r_fa rfl fo106_6) ?_
 refine unfree ?_
 refine holdH H [8] ?_
 refine tk (i := 0) rfl (by kernel_rfl) rfl H (fun w' H => r_lw (vs := []) rfl ag143_0 rfl (by simp)) ?_
 refine fk (i := 6) (by kernel_rfl) rfl rfl rfl ?_
 refine ld H rfl sc3 rfl rfl ?_
 refine nl ?_
 refine then_n ?_
 refine ⟨H, ?_⟩
 refine tk (i := 7) rfl (by kernel_rfl) rfl H (fun w' H => r_cvi rfl rfl Tryz.underlying58 (by first | exact w_u32 (by omega) | exact w_u32 (rng_u32 _) | exact m_u32 _)) ?_
 refine fb (i := 8) (by kernel_rfl) rfl rfl rfl ?_
 refine cl ca74 (c_PutUint32 _ b1 _ _ _ _ _ _ (H.look (b := b1)) (by omega) (by omega) (by omega)) rfl ?_
 rintro _ w22 ⟨rfl, hpl9, F, hnew⟩
 replace H := H.put (b := b1) F hnew; clear F hnew
 refine nl ?_
 refine then_n ?_
 refine dn (by kernel_rfl) ?_
 refine then_n ?_
 refine sq ?_
 refine dr (by kernel_rfl) ?_
 have H := H.drew
 refine hold (fun _ => True) [] ?_
 refine tk (i := 1) rfl (by kernel_rfl) rfl trivial (fun _ _ => r_mv (v := .slice _ _ _) rfl) ?_
 refine tk (i := 2) rfl (by kernel_rfl) rfl trivial (fun _ _ => r_sllhN (84) (4) (428) rfl rfl rfl Tryz.underlying30 sz5_1 (by omega) (by omega)) ?_
 refine unfree ?_
 refine holdH H [3] ?_
 refine tk (i := 0) rfl (by kernel_rfl) rfl H (fun w' H => r_lw (vs := []) rfl ag143_0 rfl (by simp)) ?_
 refine fb (i := 3) (by kernel_rfl) rfl rfl rfl ?_
 refine cl ca74 (c_PutUint32 _ b1 _ _ _ _ _ _ (H.look (b := b1)) (by omega) (by omega) (by omega)) rfl ?_
 rintro _ w23 ⟨rfl, hpl9, F, hnew⟩
 replace H := H.put (b := b1) F hnew; clear F hnew
 refine nl ?_
 refine then_n ?_
 refine dn (by kernel_rfl) ?_
 refine then_n ?_
 refine sq ?_
 refine rg ?_
 have hcl : (pAt (pAt (pAt (pAt (pAt (pAt (pAt (pAt (pAt (pAt (pAt (pAt (pAt (List.replicate 512 0) 0 (efiL)) 8 ([0, 0, 1, 0])) 12 ([92, 0, 0, 0])) 16 ([0, 0, 0, 0])) 20 ([0, 0, 0, 0])) 24 (leB 8 ((n : Int) - 1))) 32 (leB 8 1)) 40 (leB 8 34)) 48 (leB 8 ((n : Int) - 34))) 56 (gB g)) 72 (leB 8 ((n : Int) - 33))) 80 (leB 4 128)) 84 (leB 4 128)).length = 512 := hpl9.trans (by omega)
 replace H : SH w (l.map Prod.fst) _ ([⟨b1, .cells (Bs (pAt (pAt (pAt (pAt (pAt (pAt (pAt (pAt (pAt (pAt (pAt (pAt (pAt (List.replicate 512 0) 0 (efiL)) 8 ([0, 0, 1, 0])) 12 ([92, 0, 0, 0])) 16 ([0, 0, 0, 0])) 20 ([0, 0, 0, 0])) 24 (leB 8 ((n : Int) - 1))) 32 (leB 8 1)) 40 (leB 8 34)) 48 (leB 8 ((n : Int) - 34))) 56 (gB g)) 72 (leB 8 ((n : Int) - 33))) 80 (leB 4 128)) 84 (leB 4 128))).toArray 5 (0, 0), true⟩] ++ (⟨t, .cells (tbC D m cap 512 512 g pr rb 128 128 frm crc 1 ((n : Int) - 1) 34 ((n : Int) - 34) true).toArray 106 (0, 0), false⟩ :: ents 126 l)) := H.subX
 have hrow5 : ∀ j x, l[j]? = some x → ∃ ad, D = some ad ∧ World.cell? _ (ad.add j) = some (.pointer (some ⟨x.1, 0, none⟩)) := fun j x hx => by
  obtain ⟨ad, e, hc⟩ := hrow j x hx
  exact ⟨ad, e, H.fr.cell hc (by rw [add_block]; exact hDn _ e)⟩
 refine mv (v := .pointer _) rfl rfl ?_
 refine cl ca53 (c_partArr _ t _ _ _ _ _ _ _ _ _ _ _ _ _ l ps y1 y2 hsnd hlen hrow5 hDn n hg hn hok hft hm (H.rebase rfl)) rfl ?_
 rintro _ w24 ⟨q, l2, rfl, hb2, hs2, K⟩
 replace H := H.joinE (A := [_, _]) (Y := [_]) K hb2 (by simp)
 replace H : SH w (l.map Prod.fst) w24 (_ :: _ :: _ :: ents 126 l2) := H
 refine mv (v := .tuple _) rfl rfl ?_
 refine xt rfl rfl rfl ?_
 refine xt rfl rfl rfl ?_
 refine asg (v := .slice _ _ _) rfl rfl ?_
 refine asg (v := .nilIface) rfl rfl ?_
 refine nl ?_
 refine then_n ?_
 refine sq ?_
 refine sq ?_
 refine rg ?_
 refine mv (v := .nilIface) rfl rfl ?_
 refine neqI0 rfl Tryz.underlying73 rfl ?_
 refine nl ?_
 refine then_n ?_
 refine cbF rfl rfl ?_
 refine sk ?_
 refine then_n ?_
 refine sq ?_
 refine rg ?_
 refine mv (v := .slice _ _ _) rfl rfl ?_
 refine cl ca75 (c_zzCrc _ _ _ _ (arrB ps) (RB.allm (b := q) H hal) (by decide)) rfl ?_
 rintro _ w25 ⟨rfl, F⟩
 replace H := H.keep F; clear F
 refine asg (v := .int .u32 _) rfl rfl ?_
 refine nl ?_
 refine then_n ?_
 refine sq ?_
 refine dr (by kernel_rfl) ?_
 have H := H.drew
 refine hold (fun _ => True) [] ?_
 refine tk (i := 1) rfl (by kernel_rfl) rfl trivial (fun _ _ => r_mv (v := .slice _ _ _) rfl) ?_
 refine tk (i := 2) rfl (by kernel_rfl) rfl trivial (fun _ _ => r_sllhN (88) (4) (424) rfl rfl rfl Tryz.underlying30 sz5_1 (by omega) (by omega)) ?_
 refine tk (i := 3) rfl (by kernel_rfl) rfl trivial (fun _ _ => r_mv (v := .int .u32 _) rfl) ?_
 refine unfree ?_
 refine holdH H [4] ?_
 refine tk (i := 0) rfl (by kernel_rfl) rfl H (fun w' H => r_lw (vs := []) rfl ag143_0 rfl (by simp)) ?_
 refine fb (i := 4) (by kernel_rfl) rfl rfl rfl ?_
 refine cl ca74 (c_PutUint32 _ b1 _ _ _ _ _ _ (H.look (b := b1)) (by omega) (by omega) (by omega)) rfl ?_
 rintro _ w26 ⟨rfl, hpl9, F, hnew⟩
 replace H := H.put (b := b1) F hnew; clear F hnew
 refine nl ?_
 refine then_n ?_
 refine dn (by kernel_rfl) ?_
 refine then_n ?_
 refine sq ?_
 refine rg ?_
 rw [hdr_put2 (gB_len g)] at H
 refine mv (v := .slice _ _ _) rfl rfl ?_
 refine sllhN (0) (92) (512) rfl rfl rfl Tryz.underlying30 sz5_1 (by omega) (by omega) rfl ?_
 refine cl ca75 (c_zzCrc _ _ _ _ (hdrS 0 ((n : Int) - 1) 1 ((n : Int) - 33) (n : Int) (gB g) (crc32 (arrB ps))) (by have e := RB.of (b := b1) (o := 0) (n := 92) H (by rw [List.length_append, hdrS_len hgl, List.length_replicate]; decide); rw [hdr_take hgl] at e; exact e) (by decide)) rfl ?_
 rintro _ w27 ⟨rfl, F⟩
 replace H := H.keep F; clear F
 have hcr2 := hdrS_rng (hdrS 0 ((n : Int) - 1) 1 ((n : Int) - 33) (n : Int) (gB g) (crc32 (arrB ps)))
 have hl7 : (hdrS 0 ((n : Int) - 1) 1 ((n : Int) - 33) (n : Int) (gB g) (crc32 (arrB ps)) ++ List.replicate 420 0).length = 512 := by rw [List.length_append, hdrS_len hgl, List.length_replicate]
 refine asg (v := .int .u32 _) rfl rfl ?_
 refine nl ?_
 refine then_n ?_
 refine sq ?_
 refine dr (by kernel_rfl) ?_
 have H := H.drew
 refine hold (fun _ => True) [] ?_
 refine tk (i := 1) rfl (by kernel_rfl) rfl trivial (fun _ _ => r_mv (v := .slice _ _ _) rfl) ?_
 refine tk (i := 2) rfl (by kernel_rfl) rfl trivial (fun _ _ => r_sllhN (16) (4) (496) rfl rfl rfl Tryz.underlying30 sz5_1 (by omega) (by omega)) ?_
 refine tk (i := 3) rfl (by kernel_rfl) rfl trivial (fun _ _ => r_mv (v := .int .u32 _) rfl) ?_
 refine unfree ?_
 refine holdH H [4] ?_
 refine tk (i := 0) rfl (by kernel_rfl) rfl H (fun w' H => r_lw (vs := []) rfl ag143_0 rfl (by simp)) ?_
 refine fb (i := 4) (by kernel_rfl) rfl rfl rfl ?_
 refine cl ca74 (c_PutUint32 _ b1 _ _ _ _ _ _ (H.look (b := b1)) (by omega) (by omega) (by omega)) rfl ?_
 rintro _ w28 ⟨rfl, hpl9, F, hnew⟩
 replace H := H.put (b := b1) F hnew; clear F hnew
 refine nl ?_
 refine then_n ?_
 refine dn (by kernel_rfl) ?_
 refine then_n ?_
 refine sq ?_
 refine sq ?_
 refine rg ?_
 rw [hdr_sum (gB_len g)] at H
 replace H := sh_cells1 (cs' := Bs (hdrB ((n : Int) - 1) 1 ((n : Int) - 33) (n : Int) (gB g) (crc32 (arrB ps)))) H rfl
 refine asg (v := .int .i64 _) rfl rfl ?_
 refine nl ?_
 refine then_n ?_
 refine bk ?_
 refine lpM (α := Nat) [12, 155, 156, 157, 158, 159, 160, 161, 162, 163, 164, 165] (fun i => [(12, .int .i64 (i : Int))]) (fun i w' => 92 ≤ i ∧ i ≤ 512 ∧ SH w (l.map Prod.fst) w' (⟨b1, .cells (Bs (hdrB ((n : Int) - 1) 1 ((n : Int) - 33) (n : Int) (gB g) (crc32 (arrB ps)))).toArray 5 (0, 0), true⟩ :: ⟨t, .cells (tbC D m cap 512 512 g pr rb 128 128 frm crc 1 ((n : Int) - 1) 34 ((n : Int) - 34) true).toArray 106 (0, 0), false⟩ :: ents 126 l2)) (fun i => 512 - i) 92 ?_ (fCX (fN _)) ?_
 ·exact ⟨by omega, by omega, H.subX⟩
 ·rintro i ρx w29 ⟨hi1, hi, H⟩
  have hhl : (hdrB ((n : Int) - 1) 1 ((n : Int) - 33) (n : Int) (gB g) (crc32 (arrB ps))).length = 512 := hdrB_len hgl
  refine sq ?_
  refine sq ?_
  refine rg ?_
  refine mv (v := .int .i64 _) rfl rfl ?_
  refine mv (v := .pointer _) rfl rfl ?_
  refine nc rfl rfl ?_
  refine fa rfl fo106_1 rfl ?_
  refine ld H rfl sc3 rfl rfl ?_
  refine lss rfl rfl rfl ?_
  refine nl ?_
  refine then_n ?_
  refine cd rfl (fun hc5 => ?_) (fun hc5 => ?_)
  ·refine sk ?_
   refine then_n ?_
   refine sq ?_
   refine bk ?_
   refine rg ?_
   refine mv (v := .slice _ _ _) rfl rfl ?_
   refine mv (v := .int .i64 _) rfl rfl ?_
   refine iaN (i) rfl rfl Tryz.underlying30 sz5_1 (by omega) (by omega) rfl ?_
   refine stb H rfl rfl sc5 (by decide) (by omega) (by omega) ?_
   clear H; intro w92 H _
   refine nl ?_
   refine in_n ?_
   refine then_n ?_
   refine rg ?_
   refine mv (v := .int .i64 _) rfl rfl ?_
   refine add rfl rfl (by first | exact w_i64 (by omega) | exact w_i64 (rng_i64 _) | rfl) rfl ?_
   refine asg (v := .int .i64 _) rfl rfl ?_
   refine nl ?_
   refine loop_n ?_
   exact ⟨i + 1, (by (try dsimp only); omega), ⟨by omega, by omega, by rw [hdr_zero hgl ⟨by omega, by omega⟩] at H; exact H⟩, (fCX (fN _)), agX⟩
  ·refine ex ?_
   refine then_e ?_
   refine loop_e ?_
   refine in_hit rfl ?_
   refine then_n ?_
   refine sq ?_
   refine rg ?_
   refine mv (v := .slice _ _ _) rfl rfl ?_
   refine asg (v := .slice _ _ _) rfl rfl ?_
   refine asg (v := .nilIface) rfl rfl ?_
   refine nl ?_
   refine then_n ?_
   refine rt ?_
   refine fin_r ?_
   exact ⟨b1, l2, rfl, hb2, hs2, H.subX⟩
end Go.Proofs.YthcaejaaalkglaaGreatDoor.X
/- Calls that turn some of the blocks that are known; methods of embedded pointers; assertions to an interface. -/
namespace Go.Proofs.YthcaejaaalkglaaGreatDoor.X
set_option linter.unusedVariables false
open Go Go.RowKit
theorem SH.call {w0 w1 w2 : World} {S0 S : List Nat} {A M M' : List Ent} (H : SH w0 S0 w1 (A ++ M)) (K : SH w1 S w2 M') (hS : ∀ s ∈ S, ∃ x ∈ M, x.b = s ∧ x.m = true) (hm : ∀ y ∈ M', y.m = true) : SH w0 S0 w2 (A ++ M') := by
 have hp := List.pairwise_append.1 H.ap
 have hA : ∀ x ∈ A, x.b ∉ S := fun x hx h => by
  obtain ⟨y, hy, e, hym⟩ := hS _ h
  exact hp.2.2 x hx y hy (by simp [hym]) e.symm
 refine ⟨H.fr.then K.fr ?_, ?_, ?_, ?_⟩
 ·intro t ht
  obtain ⟨y, hy, e, hym⟩ := hS _ ht
  rw [← e]
  exact H.mu y (List.mem_append.2 (.inr hy)) hym
 ·intro x hx
  rcases List.mem_append.1 hx with hx | hx
  ·exact K.fr.at (H.get x (List.mem_append.2 (.inl hx))) (hA x hx)
  ·exact K.get x hx
 ·rw [List.pairwise_append]
  refine ⟨hp.1, K.ap, fun x hx y hy _ e => ?_⟩
  rcases K.mu y hy (hm y hy) with h | h
  ·exact hA x hx (e ▸ h)
  ·have h2 := lt_of_at (H.get x (List.mem_append.2 (.inl hx)))
   omega
 ·intro x hx hxm
  rcases List.mem_append.1 hx with hx | hx
  ·exact H.mu x (List.mem_append.2 (.inl hx)) hxm
  ·rcases K.mu x hx hxm with h | h
   ·obtain ⟨y, hy, e, hym⟩ := hS _ h
    rw [← e]
    exact H.mu y (List.mem_append.2 (.inr hy)) hym
   ·exact .inr (Nat.le_trans H.size h)
theorem SH.base {w0 w1 : World} {S0 : List Nat} {A M : List Ent} (H : SH w0 S0 w1 (A ++ M)) : SH w1 (M.map Ent.b) w1 M :=
 SH.init _ _ (fun x hx => H.get x (List.mem_append.2 (.inr hx))) (List.pairwise_append.1 H.ap).2.1 (fun x hx _ => List.mem_map.2 ⟨x, hx, rfl⟩)
def blkOf : Option Addr → List Nat
 | none => []
 | some ad => [ad.block]
def SD (M : List Ent) (D : Option Addr) : List Nat := M.map Ent.b ++ blkOf D
theorem OR.base {e : TypeId} {sz : Nat} {w0 w1 : World} {S0 : List Nat} {A M : List Ent} {D : Option Addr} {n cap : Nat} {xs : List Value} (O : OR e sz w0 S0 w1 (A ++ M) D n cap xs) : OR e sz w1 (SD M D) w1 M D n cap xs := by
 have hsub : ∀ s ∈ M.map Ent.b, s ∈ SD M D := fun s hs => List.mem_append.2 (.inl hs)
 have hB := O.sh.base
 refine ⟨O.len, ⟨Fr.refl _ _, hB.get, hB.ap, fun x hx hm => .inl (hsub _ (List.mem_map.2 ⟨x, hx, rfl⟩))⟩, ?_⟩
 rcases O.own with h | ⟨b, cur, rfl, h2, h3, h4, h5, h6⟩
 ·exact .inl h
 ·refine .inr ⟨b, cur, rfl, h2, h3, h4, h5, ?_⟩
  have hp := List.pairwise_cons.1 h6.ap
  refine ⟨Fr.refl _ _, ?_, ?_, ?_⟩
  ·intro x hx
   rcases List.mem_cons.1 hx with rfl | hx
   ·exact h6.get _ (.head _)
   ·exact hB.get x hx
  ·exact List.Pairwise.cons (fun y hy hm => hp.1 y (List.mem_append.2 (.inr hy)) hm) hB.ap
  ·intro x hx _
   rcases List.mem_cons.1 hx with rfl | hx
   ·exact .inl (List.mem_append.2 (.inr (by simp [blkOf])))
   ·exact .inl (hsub _ (List.mem_map.2 ⟨x, hx, rfl⟩))
theorem OR.call {e : TypeId} {sz : Nat} {w0 w1 w2 : World} {S0 : List Nat} {A M M' : List Ent} {D D' : Option Addr} {n cap n' cap' : Nat} {xs xs' : List Value} (O : OR e sz w0 S0 w1 (A ++ M) D n cap xs) (hM : ∀ y ∈ M, y.m = true) (K : OR e sz w1 (SD M D) w2 M' D' n' cap' xs') (hm : ∀ y ∈ M', y.m = true) : OR e sz w0 S0 w2 (A ++ M') D' n' cap' xs' := by
 have key : ∀ N' : List Ent, (∀ y ∈ N', y.m = true) → SH w1 (SD M D) w2 N' → SH w0 S0 w2 (A ++ N') := by
  intro N' hN K'
  rcases O.own with ⟨rfl, _⟩ | ⟨b, cur, rfl, _, _, _, _, h6⟩
  ·refine O.sh.call K' (fun s hs => ?_) hN
   simp only [SD, blkOf, List.append_nil] at hs
   obtain ⟨x, hx, rfl⟩ := List.mem_map.1 hs
   exact ⟨x, hx, rfl, hM x hx⟩
  ·have h7 : SH w0 S0 w1 (A ++ (⟨b, .cells cur.toArray e (0, 0), true⟩ :: M)) := h6.perm List.perm_middle.symm
   refine h7.call K' (fun s hs => ?_) hN
   rcases List.mem_append.1 hs with hs | hs
   ·obtain ⟨x, hx, rfl⟩ := List.mem_map.1 hs
    exact ⟨x, .tail _ hx, rfl, hM x hx⟩
   ·simp [blkOf] at hs
    exact ⟨_, .head _, hs.symm, rfl⟩
 refine ⟨K.len, key M' hm K.sh, ?_⟩
 rcases K.own with h | ⟨b, cur, h1, h2, h3, h4, h5, h6⟩
 ·exact .inl h
 ·refine .inr ⟨b, cur, h1, h2, h3, h4, h5, ?_⟩
  have h8 := key (⟨b, .cells cur.toArray e (0, 0), true⟩ :: M') (fun y hy => by
   rcases List.mem_cons.1 hy with rfl | hy
   ·rfl
   ·exact hm y hy) h6
  exact h8.perm List.perm_middle
section steps
variable {P : Program} {n : Nat} {ops : Array Oper} {Q : Post} {rest : List Oper} {ρ : Env} {w : World} {ty : TypeId} {pos : String} {af : Array Edge} {d : Nat}
theorem taI {x : Operand} {xt at_ : TypeId} {v r : Value} (hx : ev ρ x = v) (h : (Instr.typeAssert v xt at_ true).run P w = .ok r w) (hn : Nat.blt d n = true) (k : wl P n ops Q rest (upd ρ d r) w) : wl P n ops Q (⟨some d, .typeAssert x xt at_ true, ty, pos, af, none⟩ :: rest) ρ w :=
 val rfl rfl hn (by simp [execOp, hx, h]) k
end steps
structure St where
 k : Int
 d : List UInt8
 s : Bool
def St.cells (x : St) : List Value := [.int .i64 x.k, .string (str x.d), .bool x.s]
theorem St.cells_len (x : St) : x.cells.length = 3 := rfl
theorem St.cells_one (x : St) : x.cells.all Value.oneCell' = true := rfl
end Go.Proofs.YthcaejaaalkglaaGreatDoor.X
/- Walks of functions, printed by a program of this claim. -/
namespace Go.Proofs.YthcaejaaalkglaaGreatDoor.X
set_option linter.unusedVariables false
set_option linter.unusedSimpArgs false
open Go Go.RowKit
namespace PF
theorem ca122 : callable Tryz.prog 122 = true := by kernel_rfl
theorem ca56 : callable Tryz.prog 56 = true := by kernel_rfl
theorem fo76_2 : fieldOff Tryz.prog 76 2 = some 2 := by kernel_rfl
theorem sc109 : scalarB Tryz.prog 109 = true := by kernel_rfl
end PF
open PF
end Go.Proofs.YthcaejaaalkglaaGreatDoor.X
/- What a call may read of its caller's heap; the disk behind a write. -/
namespace Go.Proofs.YthcaejaaalkglaaGreatDoor.X
set_option linter.unusedVariables false
open Go Go.RowKit
theorem SH.tabBase {w0 w1 : World} {S0 : List Nat} {A B : List Ent} {t : Nat} {o : Obj} {T : TypeId} {l : PL} (H : SH w0 S0 w1 (A ++ (⟨t, o, true⟩ :: (B ++ ents T l)))) : SH w1 (l.map Prod.fst) w1 (⟨t, o, false⟩ :: ents T l) := by
 have h1 := List.pairwise_cons.1 (List.pairwise_append.1 H.ap).2.1
 have h2 := (List.pairwise_append.1 h1.2).2.1
 refine SH.init _ _ (fun x hx => ?_) ?_ (fun x hx h => ?_)
 ·rcases List.mem_cons.1 hx with rfl | hx
  ·exact H.get ⟨t, o, true⟩ (List.mem_append.2 (.inr (.head _)))
  ·exact H.get x (List.mem_append.2 (.inr (.tail _ (List.mem_append.2 (.inr hx)))))
 ·exact List.Pairwise.cons (fun y hy _ => h1.1 y (List.mem_append.2 (.inr hy)) (by simp)) h2
 ·rcases List.mem_cons.1 hx with rfl | hx
  ·cases h
  ·exact ents_b hx
theorem OR.apart {e : TypeId} {sz : Nat} {w0 w1 : World} {S0 : List Nat} {A M : List Ent} {D : Option Addr} {n cap : Nat} {xs : List Value} (O : OR e sz w0 S0 w1 (A ++ M) D n cap xs) (hM : ∀ y ∈ M, y.m = true) {x : Ent} (hx : x ∈ A) : x.b ∉ SD M D := by
 intro h
 rcases List.mem_append.1 h with h | h
 ·obtain ⟨y, hy, e1⟩ := List.mem_map.1 h
  exact (List.pairwise_append.1 O.sh.ap).2.2 x hx y hy (by simp [hM y hy]) e1.symm
 ·rcases O.own with ⟨rfl, _⟩ | ⟨b, cur, rfl, _, _, _, _, h6⟩
  ·simp [blkOf] at h
  ·simp [blkOf] at h
   exact (List.pairwise_cons.1 h6.ap).1 x (List.mem_append.2 (.inl hx)) (by simp) h.symm
theorem RB.heap {w : World} {q : Nat} {bs : List UInt8} {T : TypeId} {fr : Nat × Nat} (h : w.heap[q]? = some (.cells (Bs bs).toArray T fr)) {n : Nat} (hn : bs.length = n) : RB w (some ⟨q, 0, none⟩) n bs :=
 RB.allm (b := q) (SH.ro1 h) hn
theorem RB.heapAt {w : World} {q : Nat} {bs : List UInt8} {T : TypeId} {fr : Nat × Nat} (h : w.heap[q]? = some (.cells (Bs bs).toArray T fr)) {o n : Nat} (hn : o + n ≤ bs.length) : RB w (some ⟨q, o, none⟩) n (pcs bs o n) :=
 RB.of (b := q) (o := o) (n := n) (SH.ro1 h) hn
theorem arrB_up (ps : List GP) : arrB (ps.map upG) = arrB ps := by
 unfold arrB
 rw [List.foldl_map]
 congr 1
 funext a p
 unfold arrP
 rw [upG_entB]; rfl
theorem up_up (ps : List GP) : (ps.map upG).map upG = ps.map upG := by
 rw [List.map_map]; congr 1; funext p; exact upG_upG p
theorem up_goodL {n : Nat} {ps : List GP} (h : goodL n ps) : goodL n (ps.map upG) := by
 refine ⟨fun q hq => ?_, ?_⟩
 ·obtain ⟨p, hp, rfl⟩ := List.mem_map.1 hq
  exact upG_good (h.1 p hp)
 ·rw [List.pairwise_map]; exact h.2
theorem up_ok {ps : List GP} (h : ∀ p ∈ ps, p.ok) : ∀ p ∈ ps.map upG, p.ok := fun q hq => by
 obtain ⟨p, hp, rfl⟩ := List.mem_map.1 hq
 exact ⟨(h p hp).ix, (h p hp).st, (h p hp).en, (h p hp).sz, (h p hp).att⟩
theorem up_fit {ps : List GP} (h : ∀ p ∈ ps, p.fit) : ∀ p ∈ ps.map upG, p.fit := fun q hq => by
 obtain ⟨p, hp, rfl⟩ := List.mem_map.1 hq
 exact ⟨(h p hp).ty, (h p hp).nm, by
  have : (upG p).gu.length = 36 := gT_len (gB_len _)
  omega⟩
theorem row_same {w w' : World} {l l2 : PL} {D : Option Addr} (hb : l2.map Prod.fst = l.map Prod.fst) (h : ∀ (j : Nat) (x : Nat × List Value), l[j]? = some x → ∃ ad, D = some ad ∧ w.cell? (ad.add j) = some (.pointer (some ⟨x.1, 0, none⟩))) (S : List Nat) (F : Fr S w w') (hD : ∀ ad, D = some ad → ad.block ∉ S) : ∀ (j : Nat) (x : Nat × List Value), l2[j]? = some x → ∃ ad, D = some ad ∧ w'.cell? (ad.add j) = some (.pointer (some ⟨x.1, 0, none⟩)) := by
 intro j x hx
 have e := congrArg (fun m => m[j]?) hb
 simp only [List.getElem?_map, hx, Option.map_some] at e
 cases hy : l[j]? with
 | none => rw [hy] at e; simp at e
 | some y =>
  rw [hy] at e
  simp at e
  obtain ⟨ad, h1, h2⟩ := h j y hy
  exact ⟨ad, h1, by rw [e]; exact F.cell h2 (by rw [add_block]; exact hD ad h1)⟩
theorem len_same {l l2 : PL} {m : Nat} (hb : l2.map Prod.fst = l.map Prod.fst) (h : l.length = m) : l2.length = m := by
 have := congrArg List.length hb
 simp at this; omega
def protT (n : Nat) : List UInt8 := pcs (genP ((n : Int) - 1)) 446 66
def wr1 (ds : List UInt8) (n : Nat) : List UInt8 := pAt ds 446 (protT n)
def wr2 (ds : List UInt8) (n : Nat) (ps : List GP) : List UInt8 := pAt (wr1 ds n) ((n - 33) * 512) (arrB ps)
def wr3 (ds : List UInt8) (n : Nat) (g : List UInt8) (ps : List GP) : List UInt8 := pAt (wr2 ds n ps) ((n - 1) * 512) (encHdr2 n g ps)
def wr4 (ds : List UInt8) (n : Nat) (g : List UInt8) (ps : List GP) : List UInt8 := pAt (wr3 ds n g ps) 1024 (arrB ps)
def wrB (ds : List UInt8) (n : Nat) (g : List UInt8) (ps : List GP) : List UInt8 := pAt (wr4 ds n g ps) 512 (encHdr n g ps)
def stsW (n : Nat) (g : List UInt8) (ps : List GP) : List St := [⟨446, protT n, false⟩, ⟨0, [], true⟩, ⟨(((n - 33) * 512 : Nat) : Int), arrB ps, false⟩, ⟨0, [], true⟩, ⟨(((n - 1) * 512 : Nat) : Int), encHdr2 n g ps, false⟩, ⟨0, [], true⟩, ⟨1024, arrB ps, false⟩, ⟨0, [], true⟩, ⟨512, encHdr n g ps, false⟩, ⟨0, [], true⟩]
theorem protT_len (n : Nat) : (protT n).length = 66 := pcs_len (by rw [genP_len]; decide)
end Go.Proofs.YthcaejaaalkglaaGreatDoor.X
/- Walks of functions, printed by a program of this claim. -/
namespace Go.Proofs.YthcaejaaalkglaaGreatDoor.X
set_option linter.unusedVariables false
set_option linter.unusedSimpArgs false
open Go Go.RowKit
namespace PF
theorem ca52 : callable Tryz.prog 52 = true := by kernel_rfl
theorem ca55 : callable Tryz.prog 55 = true := by kernel_rfl
theorem ca57 : callable Tryz.prog 57 = true := by kernel_rfl
end PF
open PF
end Go.Proofs.YthcaejaaalkglaaGreatDoor.X
/- A table that has been written stands on the disk. -/
namespace Go.Proofs.YthcaejaaalkglaaGreatDoor.X
set_option linter.unusedVariables false
set_option linter.unusedSimpArgs false
set_option maxRecDepth 100000
open Go Go.RowKit
theorem prot_of2 {bs : List UInt8} {n : Nat} (hn : 1 ≤ n ∧ n ≤ 1000000) (h : pcs bs 446 66 = [0, 0, 0, 0, 238, 0, 0, 0, 1, 0, 0, 0] ++ (leB 4 ((n : Int) - 1) ++ (List.replicate 48 0 ++ [85, 170]))) : protB bs ((n : Int) - 1) = true := by
  have P : ∀ p k, p + k ≤ 66 → pcs bs (446 + p) k = pcs ([0, 0, 0, 0, 238, 0, 0, 0, 1, 0, 0, 0] ++ (leB 4 ((n : Int) - 1) ++ (List.replicate 48 0 ++ [85, 170]))) p k := fun p k hk => by rw [← h, pcsA hk]
  have G : ∀ p, p < 66 → bs.getD (446 + p) 0 = ([0, 0, 0, 0, 238, 0, 0, 0, 1, 0, 0, 0] ++ (leB 4 ((n : Int) - 1) ++ (List.replicate 48 0 ++ [85, 170]))).getD p 0 := fun p hp => by rw [← h, pcs_getD hp]
  have h4 : (leB 4 ((n : Int) - 1)).length = 4 := leB_len 4 _
  have hz : ∀ j, j < 3 → pcs bs (462 + 16 * j) 16 = List.replicate 16 0 := fun j hj => by
    have := P (16 + 16 * j) 16 (by omega)
    rw [show 446 + (16 + 16 * j) = 462 + 16 * j by omega] at this
    rw [this]
    unfold pcs
    rw [List.drop_append, List.drop_of_length_le (by simp; omega), List.nil_append, List.drop_append, List.drop_of_length_le (by rw [h4]; simp; omega), List.nil_append, h4]
    rw [List.drop_append_of_le_length (by simp; omega), List.take_append_of_le_length (by simp; omega), List.drop_replicate, List.take_replicate]
    congr 1
    simp; omega
  have h1 : pcs bs 510 2 = [85, 170] := by
    have := P 64 2 (by decide)
    rw [this]
    have e := pcs_mid (xs := [0, 0, 0, 0, 238, 0, 0, 0, 1, 0, 0, 0] ++ (leB 4 ((n : Int) - 1) ++ List.replicate 48 0)) (ys := [85, 170]) (zs := []) (p := 64) (k := 2) (by simp [h4]) rfl
    simpa only [List.append_assoc, List.append_nil] using e
  have h2 : rec3 bs = true := rec3_t fun j hj => by
    unfold zAll
    rw [hz j (by omega)]
    decide
  have h3 : (bs.getD 446 0).toNat = 0 := by rw [G 0 (by decide)]; rfl
  have h5 : (bs.getD 450 0).toNat = 238 := by rw [G 4 (by decide)]; rfl
  have h6 : fld bs 454 4 = 1 := by
    unfold fld; rw [P 8 4 (by decide)]
    rfl
  have h7 : fld bs 458 4 = (n : Int) - 1 := by
    have e := pcs_mid (xs := [0, 0, 0, 0, 238, 0, 0, 0, 1, 0, 0, 0]) (ys := leB 4 ((n : Int) - 1)) (zs := List.replicate 48 0 ++ [85, 170]) (p := 12) (k := 4) rfl h4
    unfold fld; rw [P 12 4 (by decide), e]
    exact leV_leB 4 (by omega) (by have : (256 : Int) ^ 4 = 4294967296 := by decide
                                   omega)
  unfold protB
  rw [decide_eq_true h1, h2, decide_eq_true h3, decide_eq_true h5, decide_eq_true h6, decide_eq_true h7]
  rfl
def genX : List UInt8 := ((pAt (List.replicate 512 0) 510 [85, 170]).set 446 (b8 0)).set 450 (b8 238)
theorem genX_len : genX.length = 512 := by decide +kernel
theorem pcs_split {bs : List UInt8} {o i k : Nat} : pcs bs o (i + k) = pcs bs o i ++ pcs bs (o + i) k := by
  unfold pcs
  rw [List.take_add, List.drop_drop]
theorem protT_eq (n : Nat) : protT n = [0, 0, 0, 0, 238, 0, 0, 0, 1, 0, 0, 0] ++ (leB 4 ((n : Int) - 1) ++ (List.replicate 48 0 ++ [85, 170])) := by
  have l1 : (leB 4 1).length = 4 := leB_len 4 _
  have l2 : (leB 4 ((n : Int) - 1)).length = 4 := leB_len 4 _
  have h1 : (pAt genX 454 (leB 4 1)).length = 512 := by rw [pAt_len (by rw [l1, genX_len]; decide), genX_len]
  have e : genP ((n : Int) - 1) = pAt (pAt genX 454 (leB 4 1)) 458 (leB 4 ((n : Int) - 1)) := rfl
  unfold protT
  rw [e, show (66 : Nat) = 8 + (4 + (4 + (48 + 2))) from rfl, pcs_split, pcs_split, pcs_split, pcs_split]
  rw [pcs_lo (by rw [l2, h1]; decide) (by decide), pcs_lo (by rw [l1, genX_len]; decide) (by decide), pcs_lo (by rw [l2, h1]; decide) (by decide), pcs_in l1 (by rw [genX_len]; decide), pcs_in l2 (by rw [h1]; decide),
    pcs_hi (by rw [l2, h1]; decide) (by rw [l2]; decide), pcs_hi (by rw [l1, genX_len]; decide) (by rw [l1]; decide), pcs_hi (by rw [l2, h1]; decide) (by rw [l2]; decide), pcs_hi (by rw [l1, genX_len]; decide) (by rw [l1]; decide)]
  have a1 : pcs genX 446 8 = [0, 0, 0, 0, 238, 0, 0, 0] := by decide +kernel
  have a2 : pcs genX (446 + 8 + 4 + 4) 48 = List.replicate 48 0 := by decide +kernel
  have a3 : pcs genX (446 + 8 + 4 + 4 + 48) 2 = [85, 170] := by decide +kernel
  have a4 : leB 4 1 = [1, 0, 0, 0] := by decide
  rw [a1, a2, a3, a4]
  rfl
section wr
variable {ds : List UInt8} {n : Nat} {g : List UInt8} {ps : List GP}
theorem wr_lens (hn : 80 ≤ n) (hd : n * 512 ≤ ds.length) (hf : ∀ p ∈ ps, p.fits) : (wr1 ds n).length = ds.length ∧ (wr2 ds n ps).length = ds.length ∧ (wr3 ds n g ps).length = ds.length ∧ (wr4 ds n g ps).length = ds.length ∧ (wrB ds n g ps).length = ds.length := by
  have hal := arrB_len hf
  have hgl := gB_len g
  have hh1 : (encHdr n g ps).length = 512 := hdrB_len hgl
  have hh2 : (encHdr2 n g ps).length = 512 := hdrB_len hgl
  have hpt := protT_len n
  have e1 : (wr1 ds n).length = ds.length := pAt_len (by omega)
  have e2 : (wr2 ds n ps).length = ds.length := by rw [← e1]; exact pAt_len (by omega)
  have e3 : (wr3 ds n g ps).length = ds.length := by rw [← e2]; exact pAt_len (by omega)
  have e4 : (wr4 ds n g ps).length = ds.length := by rw [← e3]; exact pAt_len (by omega)
  have e5 : (wrB ds n g ps).length = ds.length := by rw [← e4]; exact pAt_len (by omega)
  exact ⟨e1, e2, e3, e4, e5⟩
theorem wr_at (hn : 80 ≤ n) (hd : n * 512 ≤ ds.length) (hf : ∀ p ∈ ps, p.fits) :
    pcs (wrB ds n g ps) 512 512 = encHdr n g ps ∧ pcs (wrB ds n g ps) 1024 16384 = arrB ps ∧ pcs (wrB ds n g ps) ((n - 33) * 512) 16384 = arrB ps ∧ pcs (wrB ds n g ps) ((n - 1) * 512) 512 = encHdr2 n g ps ∧ pcs (wrB ds n g ps) 446 66 = protT n := by
  have hal := arrB_len hf
  have hgl := gB_len g
  have hh1 : (encHdr n g ps).length = 512 := hdrB_len hgl
  have hh2 : (encHdr2 n g ps).length = 512 := hdrB_len hgl
  have hpt := protT_len n
  obtain ⟨e1, e2, e3, e4, e5⟩ := wr_lens (g := g) hn hd hf
  refine ⟨pcs_in hh1 (by omega), ?_, ?_, ?_, ?_⟩
  · unfold wrB; rw [pcs_hi (by omega) (by omega)]; exact pcs_in hal (by omega)
  · unfold wrB; rw [pcs_hi (by omega) (by omega)]; unfold wr4; rw [pcs_hi (by omega) (by omega)]; unfold wr3; rw [pcs_lo (by omega) (by omega)]; exact pcs_in hal (by omega)
  · unfold wrB; rw [pcs_hi (by omega) (by omega)]; unfold wr4; rw [pcs_hi (by omega) (by omega)]; exact pcs_in hh2 (by omega)
  · unfold wrB; rw [pcs_lo (by omega) (by omega)]; unfold wr4; rw [pcs_lo (by omega) (by omega)]; unfold wr3; rw [pcs_lo (by omega) (by omega)]; unfold wr2; rw [pcs_lo (by omega) (by omega)]; exact pcs_in hpt (by omega)
theorem stands_wr (hn : 80 ≤ n ∧ n ≤ 1000000) (hd : ds.length = n * 512) (hf : ∀ p ∈ ps, p.fits) : Stands (wrB ds n g ps) n g ps := by
  obtain ⟨e1, e2, e3, e4, e5⟩ := wr_at (g := g) hn.1 (by omega : n * 512 ≤ ds.length) hf
  have hl := (wr_lens (g := g) hn.1 (by omega : n * 512 ≤ ds.length) hf).2.2.2.2
  exact stands_of hn (by omega) e1 e2 e3 e4 (prot_of2 (by omega) (by rw [pcs0 (by decide), e5, protT_eq]))
theorem pAt_appW {xs Z es : List UInt8} {o : Nat} (h : o + es.length ≤ xs.length) : pAt (xs ++ Z) o es = pAt xs o es ++ Z := by
  unfold pAt
  rw [List.take_append_of_le_length (by omega), List.drop_append_of_le_length (by omega)]
  simp only [List.append_assoc]
theorem wrB_app {Z : List UInt8} (hn : 80 ≤ n) (hd : n * 512 ≤ ds.length) (hf : ∀ p ∈ ps, p.fits) : wrB (ds ++ Z) n g ps = wrB ds n g ps ++ Z := by
  have hal := arrB_len hf
  have hgl := gB_len g
  have hh1 : (encHdr n g ps).length = 512 := hdrB_len hgl
  have hh2 : (encHdr2 n g ps).length = 512 := hdrB_len hgl
  have hpt := protT_len n
  obtain ⟨e1, e2, e3, e4, e5⟩ := wr_lens (g := g) hn hd hf
  unfold wrB wr4 wr3 wr2 wr1
  unfold wr1 at e1; unfold wr2 wr1 at e2; unfold wr3 wr2 wr1 at e3; unfold wr4 wr3 wr2 wr1 at e4
  rw [pAt_appW (by omega), pAt_appW (by omega), pAt_appW (by omega), pAt_appW (by omega), pAt_appW (by omega)]
end wr
theorem OR.tab {e T : TypeId} {w0 w : World} {S : List Nat} {A : List Ent} {t : Nat} {o : Obj} {l : PL} {D : Option Addr} {m cap : Nat} (O : OR e 1 w0 S w (A ++ (⟨t, o, true⟩ :: ents T l)) D m cap (ptrs l)) :
    (∀ (j : Nat) (x : Nat × List Value), l[j]? = some x → ∃ ad, D = some ad ∧ w.cell? (ad.add j) = some (.pointer (some ⟨x.1, 0, none⟩))) ∧ (∀ ad, D = some ad → ad.block ≠ t ∧ ad.block ∉ l.map Prod.fst ∧ ad.block < w.heap.size) := by
  refine ⟨fun j x hx => O.cells _ _ (ptrs_get hx), fun ad h => ?_⟩
  rcases O.own with ⟨h1, _⟩ | ⟨b, cur, h1, _, _, _, _, h6⟩
  · rw [h1] at h; cases h
  · rw [h1] at h; cases h
    have hp := (List.pairwise_cons.1 h6.ap).1
    refine ⟨hp ⟨t, o, true⟩ (List.mem_append.2 (.inr (.head _))) (by simp), fun hm => ?_, lt_of_at (h6.get _ (.head _))⟩
    obtain ⟨x, hx, e1, _⟩ := b_ents (T := T) hm
    exact hp x (List.mem_append.2 (.inr (.tail _ hx))) (by simp) e1.symm
end Go.Proofs.YthcaejaaalkglaaGreatDoor.X
/- Walks of functions, printed by a program of this claim. -/
namespace Go.Proofs.YthcaejaaalkglaaGreatDoor.X
set_option linter.unusedVariables false
set_option linter.unusedSimpArgs false
open Go Go.RowKit
namespace PF
theorem ca33 : callable Tryz.prog 33 = true := by kernel_rfl
end PF
open PF
end Go.Proofs.YthcaejaaalkglaaGreatDoor.X
/- Walks of functions, printed by a program of this claim. -/
namespace Go.Proofs.YthcaejaaalkglaaGreatDoor.X
set_option linter.unusedVariables false
set_option linter.unusedSimpArgs false
open Go Go.RowKit
namespace PF
theorem ca10 : callable Tryz.prog 10 = true := by kernel_rfl
theorem ca11 : callable Tryz.prog 11 = true := by kernel_rfl
theorem ca8 : callable Tryz.prog 8 = true := by kernel_rfl
theorem ca9 : callable Tryz.prog 9 = true := by kernel_rfl
end PF
open PF
end Go.Proofs.YthcaejaaalkglaaGreatDoor.X
/- Units up to the first zero, as a text. -/
namespace Go.Proofs.YthcaejaaalkglaaGreatDoor.X
set_option linter.unusedVariables false
open Go Go.RowKit
def upto0 (us : List Int) : List Int := us.takeWhile fun u => decide (u ≠ 0)
def fixR (r : Int) : Int := if 55296 ≤ r ∧ r < 57344 then 65533 else r
theorem tw_go : ∀ {us : List Int} {i : Nat} {u : Int}, i ≤ (upto0 us).length → us[i]? = some u → u ≠ 0 → (upto0 us)[i]? = some u
 | [], i, u, _, h, _ => by simp at h
 | a :: r, 0, u, _, h, hu => by
  simp at h; subst h
  simp [upto0, hu]
 | a :: r, i + 1, u, hi, h, hu => by
  by_cases ha : a = 0
  ·subst ha; simp [upto0] at hi
  ·have e : upto0 (a :: r) = a :: upto0 r := by simp [upto0, ha]
   rw [e] at hi ⊢
   rw [List.getElem?_cons_succ] at h ⊢
   exact tw_go (by simpa using hi) h hu
theorem tw_sub : ∀ {us : List Int} {i : Nat} {u : Int}, (upto0 us)[i]? = some u → us[i]? = some u
 | [], i, u, h => by simp [upto0] at h
 | a :: r, i, u, h => by
  by_cases ha : a = 0
  ·subst ha; simp [upto0] at h
  ·have e : upto0 (a :: r) = a :: upto0 r := by simp [upto0, ha]
   rw [e] at h
   cases i with
   | zero => simpa using h
   | succ i => rw [List.getElem?_cons_succ] at h ⊢; exact tw_sub h
theorem tw_le (us : List Int) : (upto0 us).length ≤ us.length := (List.takeWhile_prefix (l := us) _).length_le
theorem tw_stop : ∀ {us : List Int} {i : Nat}, i ≤ (upto0 us).length → us[i]? = some 0 → (upto0 us).length = i
 | [], i, _, h => by simp at h
 | a :: r, 0, _, h => by simp at h; subst h; simp [upto0]
 | a :: r, i + 1, hi, h => by
  by_cases ha : a = 0
  ·subst ha; simp [upto0] at hi
  ·have e : upto0 (a :: r) = a :: upto0 r := by simp [upto0, ha]
   rw [e] at hi ⊢
   rw [List.getElem?_cons_succ] at h
   simp only [List.length_cons]
   rw [tw_stop (by simpa using hi) h]
theorem fix_one {us : List Int} {i : Nat} {u : Int} (h : us[i]? = some u) (hn : ∀ v, us[i + 1]? = some v → ¬ (55296 ≤ u ∧ u < 56320 ∧ 56320 ≤ v ∧ v < 57344)) : dec16 (us.drop i) = fixR u :: dec16 (us.drop (i + 1)) := by
 unfold fixR
 split
 ·exact dec_C h (by omega) fun v hv => by have := hn v hv; omega
 ·exact dec_A h (by omega)
theorem fix_two {us : List Int} {i : Nat} {u v : Int} (h : us[i]? = some u) (h2 : us[i + 1]? = some v) (hu : 55296 ≤ u ∧ u < 56320) (hv : 56320 ≤ v ∧ v < 57344) : dec16 (us.drop i) = fixR (65536 + (u - 55296) * 1024 + v - 56320) :: dec16 (us.drop (i + 2)) := by
 rw [dec_B h h2 (by omega) (by omega)]
 unfold fixR
 rw [if_neg (by omega)]
 congr 1; omega
theorem fixR_t {r : Int} (h : 55296 ≤ r ∧ r < 57344) : fixR r = 65533 := if_pos h
theorem fixR_f {r : Int} (h : ¬ (55296 ≤ r ∧ r < 57344)) : fixR r = r := if_neg h
end Go.Proofs.YthcaejaaalkglaaGreatDoor.X
/- Walks of functions, printed by a program of this claim. -/
namespace Go.Proofs.YthcaejaaalkglaaGreatDoor.X
set_option linter.unusedVariables false
set_option linter.unusedSimpArgs false
open Go Go.RowKit
open PF
set_option maxRecDepth 100000 in
set_option maxHeartbeats 2000000 in
theorem c_textOf (w : World) (A : Option Addr) (n c : Nat) (us : List Int) (hR : R16 w A n us) (hn : n ≤ 1000) (hus : ∀ u ∈ us, 0 ≤ u ∧ u ≤ 65535) : Calls Tryz.prog 60 #[.slice A n c] w (Ret fun v w' => v = .string (str (encL (dec16 (upto0 us)))) ∧ Fr [] w w') := by
 refine enter (fun ρ => ρ 2) Tryz.func60 rfl rfl rfl (res1 rfl) ?_
 have H := SH.nil w
 have hul := hR.1
 have htl := tw_le us
 refine sq ?_
 refine rg ?_
 refine asg (v := .string _) rfl rfl ?_
 refine nl ?_
 refine then_n ?_
 refine sq ?_
 refine rg ?_
 refine asg (v := .slice _ _ _) rfl rfl ?_
 refine nl ?_
 refine then_n ?_
 refine sq ?_
 refine sq ?_
 refine rg ?_
 refine asg (v := .int .i64 _) rfl rfl ?_
 refine nl ?_
 refine then_n ?_
 refine bk ?_
 refine lpM (α := Nat × Option Addr × Nat × List Int) [3, 4, 5, 6, 7, 8, 9, 10, 11, 12, 13, 14, 15, 16, 17, 18, 19, 20, 21, 22, 23, 24, 25, 26, 27, 28, 29, 30, 31, 32, 33, 34, 35, 36, 37, 38, 39, 40, 41, 42, 43, 44, 45, 46, 47, 48, 49, 50, 51, 52, 53, 54, 55, 56, 57, 58, 59, 60, 61, 62, 63, 64, 65, 66, 67, 68, 69, 70, 71, 72, 73, 74, 75, 76] (fun (i, D, cap, rs) => [(3, .slice D rs.length cap), (4, .int .i64 (i : Int))]) (fun (i, D, cap, rs) w' => i ≤ (upto0 us).length ∧ rs.length ≤ i ∧ dec16 (upto0 us) = rs ++ dec16 ((upto0 us).drop i) ∧ OR 21 1 w [] w' [] D rs.length cap (rs.map (Value.int .i32))) (fun (i, D, cap, rs) => n - i) (0, none, 0, []) ?_ (fCX (fCX (fN _))) ?_
 ·exact ⟨by omega, by simp, rfl, OR.nil H⟩
 ·rintro ⟨i, D, cap, rs⟩ ρx w1 ⟨hi, hk, hd, O⟩
  have H := O.sh
  refine sq ?_
  refine sq ?_
  refine rg ?_
  refine mv (v := .int .i64 _) rfl rfl ?_
  refine mv (v := .slice _ _ _) rfl rfl ?_
  refine lnS rfl Tryz.underlying90 rfl ?_
  refine lss rfl rfl rfl ?_
  refine mv (v := .bool _) rfl rfl ?_
  refine spd (t := 10) rfl (fun hg1 => ?_) (fun hg1 => ?_)
  ·obtain ⟨u, hu⟩ : ∃ u, us[i]? = some u := ⟨_, List.getElem?_eq_getElem (by omega)⟩
   have hur := hus u (List.mem_of_getElem? hu)
   obtain ⟨ad, rfl, hcell⟩ := hR.2 i u hu
   have hcell := H.fr.cell hcell (by simp)
   refine gy rfl ?_
   refine mv (v := .slice _ _ _) rfl rfl ?_
   refine gy rfl ?_
   refine mv (v := .int .i64 _) rfl rfl ?_
   refine gy rfl ?_
   refine iA rfl rfl Tryz.underlying90 sz25_1 (by omega) rfl ?_
   refine gy rfl ?_
   refine lc rfl (by first | assumption | exact H.fr.cell (by assumption) (by simp)) sc25 rfl ?_
   refine gy rfl ?_
   refine neq rfl rfl rfl ?_
   refine pkT (v := .bool _) rfl rfl rfl ?_
   refine nl ?_
   refine then_n ?_
   refine cd rfl (fun hc1 => ?_) (fun hc1 => ?_)
   ·have hu0 := tw_go hi hu (by omega)
    have hil := (List.getElem?_eq_some_iff.1 hu0).1
    refine sk ?_
    refine then_n ?_
    refine sq ?_
    refine bk ?_
    refine sq ?_
    refine rg ?_
    refine mv (v := .slice _ _ _) rfl rfl ?_
    refine mv (v := .int .i64 _) rfl rfl ?_
    refine iA rfl rfl Tryz.underlying90 sz25_1 (by omega) rfl ?_
    refine lc rfl (by first | assumption | exact H.fr.cell (by assumption) (by simp)) sc25 rfl ?_
    refine cvi rfl rfl Tryz.underlying21 (by first | exact w_i32 (by omega) | exact w_i32 (rng_i32 _) | rfl) rfl ?_
    refine asg (v := .int .i32 _) rfl rfl ?_
    refine nl ?_
    refine then_n ?_
    refine ctM (α := Int × Nat) [4, 5, 24, 25, 26, 27, 28, 29, 30, 31, 32, 33, 34, 35, 36, 37, 38, 39, 40, 41, 42, 43, 44, 45, 46, 47, 48, 49, 50, 51, 52, 53, 54, 55, 56, 57, 58, 59, 60, 61, 62, 63, 64, 65, 66] (fun (r, j) => [(4, .int .i64 (j : Int)), (5, .int .i32 r)]) (fun (r, j) w' => i ≤ j ∧ j + 1 ≤ (upto0 us).length ∧ dec16 ((upto0 us).drop i) = fixR r :: dec16 ((upto0 us).drop (j + 1)) ∧ (0 ≤ r ∧ r ≤ 1114111) ∧ OR 21 1 w [] w' [] D rs.length cap (rs.map (Value.int .i32))) ?_ ?_
    ·refine sq ?_
     refine rg ?_
     refine mv (v := .int .i32 _) rfl rfl ?_
     refine geq rfl rfl rfl ?_
     refine mv (v := .bool _) rfl rfl ?_
     refine spd (t := 26) rfl (fun hg2 => ?_) (fun hg2 => ?_)
     ·refine gy rfl ?_
      refine mv (v := .int .i32 _) rfl rfl ?_
      refine gy rfl ?_
      refine lss rfl rfl rfl ?_
      refine pkT (v := .bool _) rfl rfl rfl ?_
      refine mv (v := .bool _) rfl rfl ?_
      refine spd (t := 30) rfl (fun hg3 => ?_) (fun hg3 => ?_)
      ·refine gy rfl ?_
       refine mv (v := .int .i64 _) rfl rfl ?_
       refine gy rfl ?_
       refine add rfl rfl (by first | exact w_i64 (by omega) | exact w_i64 (rng_i64 _) | rfl) rfl ?_
       refine gy rfl ?_
       refine mv (v := .slice _ _ _) rfl rfl ?_
       refine gy rfl ?_
       refine lnS rfl Tryz.underlying90 rfl ?_
       refine gy rfl ?_
       refine lss rfl rfl rfl ?_
       refine pkT (v := .bool _) rfl rfl rfl ?_
       refine mv (v := .bool _) rfl rfl ?_
       refine spd (t := 37) rfl (fun hg4 => ?_) (fun hg4 => ?_)
       ·obtain ⟨v2, hv2⟩ : ∃ v, us[i + 1]? = some v := ⟨_, List.getElem?_eq_getElem (by omega)⟩
        have hvr := hus v2 (List.mem_of_getElem? hv2)
        have hcell2 := H.fr.cell (hR.at hv2) (by simp)
        refine gy rfl ?_
        refine mv (v := .slice _ _ _) rfl rfl ?_
        refine gy rfl ?_
        refine mv (v := .int .i64 _) rfl rfl ?_
        refine gy rfl ?_
        refine add rfl rfl (by first | exact w_i64 (by omega) | exact w_i64 (rng_i64 _) | rfl) rfl ?_
        refine gy rfl ?_
        refine iA rfl rfl Tryz.underlying90 sz25_1 (by omega) rfl ?_
        refine gy rfl ?_
        refine lc rfl (by first | assumption | exact H.fr.cell (by assumption) (by simp)) sc25 rfl ?_
        refine gy rfl ?_
        refine geq rfl rfl rfl ?_
        refine pkT (v := .bool _) rfl rfl rfl ?_
        refine mv (v := .bool _) rfl rfl ?_
        refine spd (t := 45) rfl (fun hg5 => ?_) (fun hg5 => ?_)
        ·refine gy rfl ?_
         refine mv (v := .slice _ _ _) rfl rfl ?_
         refine gy rfl ?_
         refine mv (v := .int .i64 _) rfl rfl ?_
         refine gy rfl ?_
         refine add rfl rfl (by first | exact w_i64 (by omega) | exact w_i64 (rng_i64 _) | rfl) rfl ?_
         refine gy rfl ?_
         refine iA rfl rfl Tryz.underlying90 sz25_1 (by omega) rfl ?_
         refine gy rfl ?_
         refine lc rfl (by first | assumption | exact H.fr.cell (by assumption) (by simp)) sc25 rfl ?_
         refine gy rfl ?_
         refine lss rfl rfl rfl ?_
         refine pkT (v := .bool _) rfl rfl rfl ?_
         refine nl ?_
         refine then_n ?_
         refine cd rfl (fun hc2 => ?_) (fun hc2 => ?_)
         ·have hv0 := tw_go (by omega) hv2 (by omega)
          have hil2 := (List.getElem?_eq_some_iff.1 hv0).1
          refine sq ?_
          refine rg ?_
          refine mv (v := .int .i32 _) rfl rfl ?_
          refine sub rfl rfl (by first | exact w_i32 (by omega) | exact w_i32 (rng_i32 _) | rfl) rfl ?_
          refine shlK (s := 10) (p := 1024) rfl rfl (by decide) (by decide) (by first | exact w_i32 (by omega) | exact w_i32 (rng_i32 _) | rfl) rfl ?_
          refine add rfl rfl (by first | exact w_i32 (by omega) | exact w_i32 (rng_i32 _) | rfl) rfl ?_
          refine mv (v := .slice _ _ _) rfl rfl ?_
          refine mv (v := .int .i64 _) rfl rfl ?_
          refine add rfl rfl (by first | exact w_i64 (by omega) | exact w_i64 (rng_i64 _) | rfl) rfl ?_
          refine iA rfl rfl Tryz.underlying90 sz25_1 (by omega) rfl ?_
          refine lc rfl (by first | assumption | exact H.fr.cell (by assumption) (by simp)) sc25 rfl ?_
          refine cvi rfl rfl Tryz.underlying21 (by first | exact w_i32 (by omega) | exact w_i32 (rng_i32 _) | rfl) rfl ?_
          refine add rfl rfl (by first | exact w_i32 (by omega) | exact w_i32 (rng_i32 _) | rfl) rfl ?_
          refine sub rfl rfl (by first | exact w_i32 (by omega) | exact w_i32 (rng_i32 _) | rfl) rfl ?_
          refine asg (v := .int .i32 _) rfl rfl ?_
          refine nl ?_
          refine then_n ?_
          refine rg ?_
          refine mv (v := .int .i64 _) rfl rfl ?_
          refine add rfl rfl (by first | exact w_i64 (by omega) | exact w_i64 (rng_i64 _) | rfl) rfl ?_
          refine asg (v := .int .i64 _) rfl rfl ?_
          refine nl ?_
          refine then_n ?_
          exact ⟨(_, i + 1), ⟨by omega, by omega, fix_two hu0 hv0 (by omega) (by omega), by omega, O⟩, (fCX (fCX (fN _))), agX⟩
         ·refine sk ?_
          refine then_n ?_
          exact ⟨(u, i), ⟨by omega, by omega, fix_one hu0 (fun v h => by have h9 := tw_sub h; rw [hv2] at h9; cases h9; omega), by omega, O⟩, (fCX (fCX (fN _))), agX⟩
        ·refine gn rfl rfl ?_
         refine gn rfl rfl ?_
         refine gn rfl rfl ?_
         refine gn rfl rfl ?_
         refine gn rfl rfl ?_
         refine gn rfl rfl ?_
         refine pkF (v := .bool _) rfl rfl rfl ?_
         refine nl ?_
         refine then_n ?_
         refine cbF rfl rfl ?_
         refine sk ?_
         refine then_n ?_
         exact ⟨(u, i), ⟨by omega, by omega, fix_one hu0 (fun v h => by have h9 := tw_sub h; rw [hv2] at h9; cases h9; omega), by omega, O⟩, (fCX (fCX (fN _))), agX⟩
       ·refine gn rfl rfl ?_
        refine gn rfl rfl ?_
        refine gn rfl rfl ?_
        refine gn rfl rfl ?_
        refine gn rfl rfl ?_
        refine gn rfl rfl ?_
        refine pkF (v := .bool _) rfl rfl rfl ?_
        refine mv (v := .bool _) rfl rfl ?_
        refine gn rfl rfl ?_
        refine gn rfl rfl ?_
        refine gn rfl rfl ?_
        refine gn rfl rfl ?_
        refine gn rfl rfl ?_
        refine gn rfl rfl ?_
        refine pkF (v := .bool _) rfl rfl rfl ?_
        refine nl ?_
        refine then_n ?_
        refine cbF rfl rfl ?_
        refine sk ?_
        refine then_n ?_
        exact ⟨(u, i), ⟨by omega, by omega, fix_one hu0 (fun v h => by have := (List.getElem?_eq_some_iff.1 (tw_sub h)).1; omega), by omega, O⟩, (fCX (fCX (fN _))), agX⟩
      ·refine gn rfl rfl ?_
       refine gn rfl rfl ?_
       refine gn rfl rfl ?_
       refine gn rfl rfl ?_
       refine gn rfl rfl ?_
       refine pkF (v := .bool _) rfl rfl rfl ?_
       refine mv (v := .bool _) rfl rfl ?_
       refine gn rfl rfl ?_
       refine gn rfl rfl ?_
       refine gn rfl rfl ?_
       refine gn rfl rfl ?_
       refine gn rfl rfl ?_
       refine gn rfl rfl ?_
       refine pkF (v := .bool _) rfl rfl rfl ?_
       refine mv (v := .bool _) rfl rfl ?_
       refine gn rfl rfl ?_
       refine gn rfl rfl ?_
       refine gn rfl rfl ?_
       refine gn rfl rfl ?_
       refine gn rfl rfl ?_
       refine gn rfl rfl ?_
       refine pkF (v := .bool _) rfl rfl rfl ?_
       refine nl ?_
       refine then_n ?_
       refine cbF rfl rfl ?_
       refine sk ?_
       refine then_n ?_
       exact ⟨(u, i), ⟨by omega, by omega, fix_one hu0 (fun v h => by omega), by omega, O⟩, (fCX (fCX (fN _))), agX⟩
     ·refine gn rfl rfl ?_
      refine gn rfl rfl ?_
      refine pkF (v := .bool _) rfl rfl rfl ?_
      refine mv (v := .bool _) rfl rfl ?_
      refine gn rfl rfl ?_
      refine gn rfl rfl ?_
      refine gn rfl rfl ?_
      refine gn rfl rfl ?_
      refine gn rfl rfl ?_
      refine pkF (v := .bool _) rfl rfl rfl ?_
      refine mv (v := .bool _) rfl rfl ?_
      refine gn rfl rfl ?_
      refine gn rfl rfl ?_
      refine gn rfl rfl ?_
      refine gn rfl rfl ?_
      refine gn rfl rfl ?_
      refine gn rfl rfl ?_
      refine pkF (v := .bool _) rfl rfl rfl ?_
      refine mv (v := .bool _) rfl rfl ?_
      refine gn rfl rfl ?_
      refine gn rfl rfl ?_
      refine gn rfl rfl ?_
      refine gn rfl rfl ?_
      refine gn rfl rfl ?_
      refine gn rfl rfl ?_
      refine pkF (v := .bool _) rfl rfl rfl ?_
      refine nl ?_
      refine then_n ?_
      refine cbF rfl rfl ?_
      refine sk ?_
      refine then_n ?_
      exact ⟨(u, i), ⟨by omega, by omega, fix_one hu0 (fun v h => by omega), by omega, O⟩, (fCX (fCX (fN _))), agX⟩
    ·rintro ⟨r, j⟩ ρx w2 ⟨hj, hjn, hdr, hrr, O⟩
     have H := O.sh
     refine sq ?_
     refine sq ?_
     refine rg ?_
     refine mv (v := .int .i32 _) rfl rfl ?_
     refine geq rfl rfl rfl ?_
     refine mv (v := .bool _) rfl rfl ?_
     refine spd (t := 69) rfl (fun hg6 => ?_) (fun hg6 => ?_)
     ·refine gy rfl ?_
      refine mv (v := .int .i32 _) rfl rfl ?_
      refine gy rfl ?_
      refine lss rfl rfl rfl ?_
      refine pkT (v := .bool _) rfl rfl rfl ?_
      refine nl ?_
      refine then_n ?_
      refine cd rfl (fun hc3 => ?_) (fun hc3 => ?_)
      ·refine rg ?_
       refine asg (v := .int .i32 _) rfl rfl ?_
       refine nl ?_
       refine then_n ?_
       refine rg ?_
       refine mv (v := .slice _ _ _) rfl rfl ?_
       refine mv (v := .int .i32 _) rfl rfl ?_
       refine bsl (sz := 1) (out := ?o1) H Tryz.underlying152 ze21 sz21_1 (by decide) ?f1 rfl ?_
       case f1 =>
        refine FS.one (v := .int .i32 _) rfl rfl rfl (by first | decide | simp) ?_
        exact FS.nil
       intro b1 w3 hb1 H1 F; replace O := O.new F hb1 H1.look; clear H H1 F; have H := O.sh
       refine apO (zs := [.int .i32 0]) [.int .i32 65533] O rfl rfl Tryz.underlying152 ri21 (by first | rfl | simp) (cells_look H.look) (by simp [Value.oneCell']) (by simp) (by omega) (by unfold maxLen; omega) rfl ?_
       clear O H; intro D9 cp9 w4 O
       have H := O.sh
       refine asg (v := .slice _ _ _) rfl rfl ?_
       refine nl ?_
       refine in_n ?_
       refine then_n ?_
       refine rg ?_
       refine mv (v := .int .i64 _) rfl rfl ?_
       refine add rfl rfl (by first | exact w_i64 (by omega) | exact w_i64 (rng_i64 _) | rfl) rfl ?_
       refine asg (v := .int .i64 _) rfl rfl ?_
       refine nl ?_
       refine loop_n ?_
       exact ⟨(j + 1, D9, cp9, rs ++ [65533]), (by (try dsimp only); omega), ⟨by omega, by simp; omega, by rw [hd, hdr, fixR_t (by omega), List.append_assoc]; rfl, by rw [List.length_append, List.map_append]; exact O.subX⟩, (fCX (fCX (fN _))), agX⟩
      ·refine sk ?_
       refine then_n ?_
       refine rg ?_
       refine mv (v := .slice _ _ _) rfl rfl ?_
       refine mv (v := .int .i32 _) rfl rfl ?_
       refine bsl (sz := 1) (out := ?o2) H Tryz.underlying152 ze21 sz21_1 (by decide) ?f2 rfl ?_
       case f2 =>
        refine FS.one (v := .int .i32 _) rfl rfl rfl (by first | decide | simp) ?_
        exact FS.nil
       intro b2 w5 hb2 H1 F; replace O := O.new F hb2 H1.look; clear H H1 F; have H := O.sh
       refine apO (zs := [.int .i32 0]) [.int .i32 r] O rfl rfl Tryz.underlying152 ri21 (by first | rfl | simp) (cells_look H.look) (by simp [Value.oneCell']) (by simp) (by omega) (by unfold maxLen; omega) rfl ?_
       clear O H; intro D9 cp9 w6 O
       have H := O.sh
       refine asg (v := .slice _ _ _) rfl rfl ?_
       refine nl ?_
       refine in_n ?_
       refine then_n ?_
       refine rg ?_
       refine mv (v := .int .i64 _) rfl rfl ?_
       refine add rfl rfl (by first | exact w_i64 (by omega) | exact w_i64 (rng_i64 _) | rfl) rfl ?_
       refine asg (v := .int .i64 _) rfl rfl ?_
       refine nl ?_
       refine loop_n ?_
       exact ⟨(j + 1, D9, cp9, rs ++ [r]), (by (try dsimp only); omega), ⟨by omega, by simp; omega, by rw [hd, hdr, fixR_f (by omega), List.append_assoc]; rfl, by rw [List.length_append, List.map_append]; exact O.subX⟩, (fCX (fCX (fN _))), agX⟩
     ·refine gn rfl rfl ?_
      refine gn rfl rfl ?_
      refine pkF (v := .bool _) rfl rfl rfl ?_
      refine nl ?_
      refine then_n ?_
      refine cbF rfl rfl ?_
      refine sk ?_
      refine then_n ?_
      refine rg ?_
      refine mv (v := .slice _ _ _) rfl rfl ?_
      refine mv (v := .int .i32 _) rfl rfl ?_
      refine bsl (sz := 1) (out := ?o3) H Tryz.underlying152 ze21 sz21_1 (by decide) ?f3 rfl ?_
      case f3 =>
       refine FS.one (v := .int .i32 _) rfl rfl rfl (by first | decide | simp) ?_
       exact FS.nil
      intro b3 w7 hb3 H1 F; replace O := O.new F hb3 H1.look; clear H H1 F; have H := O.sh
      refine apO (zs := [.int .i32 0]) [.int .i32 r] O rfl rfl Tryz.underlying152 ri21 (by first | rfl | simp) (cells_look H.look) (by simp [Value.oneCell']) (by simp) (by omega) (by unfold maxLen; omega) rfl ?_
      clear O H; intro D9 cp9 w8 O
      have H := O.sh
      refine asg (v := .slice _ _ _) rfl rfl ?_
      refine nl ?_
      refine in_n ?_
      refine then_n ?_
      refine rg ?_
      refine mv (v := .int .i64 _) rfl rfl ?_
      refine add rfl rfl (by first | exact w_i64 (by omega) | exact w_i64 (rng_i64 _) | rfl) rfl ?_
      refine asg (v := .int .i64 _) rfl rfl ?_
      refine nl ?_
      refine loop_n ?_
      exact ⟨(j + 1, D9, cp9, rs ++ [r]), (by (try dsimp only); omega), ⟨by omega, by simp; omega, by rw [hd, hdr, fixR_f (by omega), List.append_assoc]; rfl, by rw [List.length_append, List.map_append]; exact O.subX⟩, (fCX (fCX (fN _))), agX⟩
   ·have hts := tw_stop hi (by rw [hu]; congr 1; omega)
    refine ex ?_
    refine then_e ?_
    refine loop_e ?_
    refine in_hit rfl ?_
    refine then_n ?_
    refine sq ?_
    refine rg ?_
    refine mv (v := .slice _ _ _) rfl rfl ?_
    refine cvRO O rfl Tryz.underlying152 Tryz.underlying21 Tryz.underlying9 rfl ?_
    refine asg (v := .string _) rfl rfl ?_
    refine nl ?_
    refine then_n ?_
    refine rt ?_
    refine fin_r ?_
    have e : dec16 (upto0 us) = rs := by rw [hd, List.drop_of_length_le (by omega)]; simp [dec16]
    rw [e]
    exact ⟨rfl, H.fr⟩
  ·have hts : (upto0 us).length = i := by omega
   refine gn rfl rfl ?_
   refine gn rfl rfl ?_
   refine gn rfl rfl ?_
   refine gn rfl rfl ?_
   refine gn rfl rfl ?_
   refine pkF (v := .bool _) rfl rfl rfl ?_
   refine nl ?_
   refine then_n ?_
   refine cbF rfl rfl ?_
   refine ex ?_
   refine then_e ?_
   refine loop_e ?_
   refine in_hit rfl ?_
   refine then_n ?_
   refine sq ?_
   refine rg ?_
   refine mv (v := .slice _ _ _) rfl rfl ?_
   refine cvRO O rfl Tryz.underlying152 Tryz.underlying21 Tryz.underlying9 rfl ?_
   refine asg (v := .string _) rfl rfl ?_
   refine nl ?_
   refine then_n ?_
   refine rt ?_
   refine fin_r ?_
   have e : dec16 (upto0 us) = rs := by rw [hd, List.drop_of_length_le (by omega)]; simp [dec16]
   rw [e]
   exact ⟨rfl, H.fr⟩
end Go.Proofs.YthcaejaaalkglaaGreatDoor.X
/- Bytes appended to an empty row: the new block, with its zeros. -/
namespace Go.Proofs.YthcaejaaalkglaaGreatDoor.X
set_option linter.unusedVariables false
open Go Go.RowKit
variable {P : Program} {n : Nat} {ops : Array Oper} {Q : Post} {rest : List Oper} {ρ : Env} {w : World} {ty : TypeId} {pos : String} {af : Array Edge} {d : Nat}
theorem Bs_zeros (k : Nat) : (Builtin.zeroCells #[.int .u8 0] k).toList = Bs (List.replicate k 0) := by
 rw [show Bs (List.replicate k 0) = List.replicate k (Value.int .u8 0) by simp [Bs, u8v]]
 rw [List.eq_replicate_iff]
 refine ⟨by simp [Builtin.zeroCells], fun b hb => ?_⟩
 simp [Builtin.zeroCells] at hb
 obtain ⟨i, _, rfl⟩ := hb
 rw [show i % 1 = 0 by omega]; rfl
theorem apZ {t e : TypeId} {w0 : World} {S : List Nat} {L : List Ent} {b m c : Nat} {X : Option Addr} {bs : List UInt8} {s x : Operand} (H : SH w0 S w L)
  (hs : ev ρ s = .slice (some ⟨b, 0, none⟩) 0 0) (hx : ev ρ x = .slice X m c) (hR : RB w X m bs) (hu : P.underlying t = some (.slice e)) (hi : rowInfo P e = some ([.int .u8 0], 1)) (hm : 0 < m ∧ m ≤ 100000000) (hn : Nat.blt d n = true)
  (kk : ∀ q cap' w', w.heap.size ≤ q → m ≤ cap' → cap' ≤ maxLen → Fr [] w w' → SH w0 S w' (⟨q, .cells (Bs (bs ++ List.replicate (cap' - m) 0)).toArray e (0, 0), true⟩ :: L) → wl P n ops Q rest (upd ρ d (.slice (some ⟨q, 0, none⟩) m cap')) w') : wl P n ops Q (⟨some d, .call { callee := .builtin .append, args := #[s, x], argTypes := #[t, t] }, ty, pos, af, none⟩ :: rest) ρ w := by
 obtain ⟨i, z, hinf, hz, hzc, hsz, hby, hpos⟩ := rowInfo_some hi
 have hl := hR.1
 obtain ⟨ad, rfl, _⟩ : ∃ ad, X = some ad ∧ True := by
  obtain ⟨ad, h, _⟩ := RB.cells hR 0 (.int .u8 ((bs.getD 0 0).toNat : Int)) (by rw [Bs_get (by omega)])
  exact ⟨ad, h, trivial⟩
 have hnews : ∀ j u, (Bs bs)[j]? = some u → w.cell? (ad.add j) = some u := fun j u hu => by
  obtain ⟨ad', h1, h2⟩ := RB.cells hR j u hu
  obtain rfl := Option.some.inj h1
  exact h2
 have hsz1 : i.size = 1 := hsz
 have hmax : 0 + m ≤ maxLen := by unfold maxLen; omega
 have hge := grownCap_ge w (0 + m) 0 e
 have hcm : grownCap w (0 + m) 0 e ≤ maxLen := grownCap_le_maxLen w (0 + m) 0 e hmax
 have hr := run_append_grow (P := P) w t ty e i z hu hinf hz ⟨b, 0, none⟩ 0 0 [] (by rw [hsz1]; rfl) (fun j u h => by simp at h) ad m c (Bs bs) (by rw [hsz1, Bs_length, hl]; omega) hnews (by omega) (by unfold maxLen at hmax; omega) (by rw [hby]; exact growslice_fits (by omega) (by omega))
 have hf : Fr [] w (w.drew.alloc (.cells (([] : List Value).toArray ++ (Bs bs).toArray ++ Builtin.zeroCells z.cells (grownCap w (0 + m) 0 e - (0 + m))) e)) := (Fr.drew [] w).trans (Fr.alloc w.drew _)
 have hnew := H.new (o := .cells (([] : List Value).toArray ++ (Bs bs).toArray ++ Builtin.zeroCells z.cells (grownCap w (0 + m) 0 e - (0 + m))) e) hf (Nat.le_refl _) (heap_alloc_new w.drew _)
 have e1 : ([] : List Value).toArray ++ (Bs bs).toArray ++ Builtin.zeroCells z.cells (grownCap w (0 + m) 0 e - (0 + m)) = (Bs (bs ++ List.replicate (grownCap w (0 + m) 0 e - m) 0)).toArray := by
  apply Array.ext'
  rw [hzc]
  have e2 : Bs (bs ++ List.replicate (grownCap w (0 + m) 0 e - m) 0) = Bs bs ++ Bs (List.replicate (grownCap w (0 + m) 0 e - m) 0) := List.map_append ..
  rw [e2]
  simp only [Array.toList_append, List.nil_append, Bs_zeros, Nat.zero_add]
 rw [e1] at hr hf hnew
 rw [Nat.zero_add] at *
 exact val rfl rfl hn (by simp [execOp, resolve, invoke, builtin, hs, hx, hr]) (kk _ _ _ (Nat.le_refl _) hge hcm hf hnew)
end Go.Proofs.YthcaejaaalkglaaGreatDoor.X
/- A header and its array, as the specification looks at them. -/
namespace Go.Proofs.YthcaejaaalkglaaGreatDoor.X
set_option linter.unusedVariables false
open Go Go.RowKit
def gatB (bs : List UInt8) (n a : Nat) : Bool :=
 sigOk bs (a * 512) && (decide (fld bs (a * 512 + 12) 4 = 92) && (crcOk bs (a * 512) && (decide (fld bs (a * 512 + 24) 8 = (a : Int)) && (decide (fld bs (a * 512 + 84) 4 = 128) && (decide (fld bs (a * 512 + 80) 4 = 128) &&
  (decide (fld bs (a * 512 + 72) 8 < (n : Int)) && (decide (32 ≤ (n : Int) - fld bs (a * 512 + 72) 8) && decide (crc32 (pcs bs ((fld bs (a * 512 + 72) 8).toNat * 512) 16384) = fld bs (a * 512 + 88) 4))))))))
theorem leH {bs J : List UInt8} {A o k : Nat} (hA : A + 92 ≤ bs.length) (h : o + k ≤ 92) : leV (((pcs bs A 92 ++ J).drop o).take k) = fld bs (A + o) k := by
 have hl : (pcs bs A 92).length = 92 := pcs_len (by omega)
 unfold fld
 rw [List.drop_append_of_le_length (by omega), List.take_append_of_le_length (by rw [List.length_drop]; omega)]
 exact congrArg leV (pcs_pcs h)
theorem leF {bs J : List UInt8} {A o k : Nat} (hA : A + 92 ≤ bs.length) (h : o + k ≤ 92) (h2 : o + k ≤ 16 ∨ 20 ≤ o) : leV (((zHdr (pcs bs A 92) ++ J).drop o).take k) = fld bs (A + o) k := by
 have hl : (pcs bs A 92).length = 92 := pcs_len (by omega)
 have hz := zHdr_len hl
 unfold fld
 rw [List.drop_append_of_le_length (by omega), List.take_append_of_le_length (by rw [List.length_drop]; omega), ← pcs_pcs h]
 refine congrArg leV ?_
 show pcs (zHdr (pcs bs A 92)) o k = _
 unfold zHdr
 rcases h2 with h2 | h2
 ·exact pcs_lo (by rw [hl]; decide) h2
 ·exact pcs_hi (by rw [hl]; decide) h2
theorem sigF {bs J : List UInt8} {A : Nat} (hA : A + 92 ≤ bs.length) : ((zHdr (pcs bs A 92) ++ J).drop 0).take 8 = pcs bs A 8 := by
 have hl : (pcs bs A 92).length = 92 := pcs_len (by omega)
 have hz := zHdr_len hl
 rw [List.drop_zero, List.take_append_of_le_length (by omega)]
 have e : pcs (zHdr (pcs bs A 92)) 0 8 = pcs (pcs bs A 92) 0 8 := by unfold zHdr; exact pcs_lo (by rw [hl]; decide) (by decide)
 have e2 : pcs (pcs bs A 92) 0 8 = pcs bs (A + 0) 8 := pcs_pcs (by decide)
 rw [Nat.add_zero] at e2
 rw [← e2, ← e]; simp [pcs]
theorem guF {bs J : List UInt8} {A : Nat} (hA : A + 92 ≤ bs.length) : ((zHdr (pcs bs A 92) ++ J).drop 56).take 16 = pcs bs (A + 56) 16 := by
 have hl : (pcs bs A 92).length = 92 := pcs_len (by omega)
 have hz := zHdr_len hl
 rw [List.drop_append_of_le_length (by omega), List.take_append_of_le_length (by rw [List.length_drop]; omega)]
 have e : pcs (zHdr (pcs bs A 92)) 56 16 = pcs (pcs bs A 92) 56 16 := by unfold zHdr; exact pcs_hi (by rw [hl]; decide) (by decide)
 have e2 : pcs (pcs bs A 92) 56 16 = pcs bs (A + 56) 16 := pcs_pcs (by decide)
 rw [← e2, ← e]; simp [pcs]
theorem leE {bs : List UInt8} {R i o k : Nat} (h : o + k ≤ 128) (hi : i < 128) : leV ((bs.drop (R + (128 * i + o))).take k) = fld (entA (pcs bs R 16384) i) o k := by
 unfold fld entA
 rw [pcs_pcs (ds := pcs bs R 16384) h, pcs_pcs (by omega)]
 rfl
theorem gtE {bs : List UInt8} {R i o k : Nat} (h : o + k ≤ 128) (hi : i < 128) : pcs bs (R + (128 * i + o)) k = pcs (entA (pcs bs R 16384) i) o k := by
 unfold entA
 rw [pcs_pcs (ds := pcs bs R 16384) h, pcs_pcs (by omega)]
theorem putZ {bs J : List UInt8} {A : Nat} (hA : A + 92 ≤ bs.length) : pAt (pcs bs A 92 ++ J) 16 (leB 4 0) = zHdr (pcs bs A 92) ++ J := by
 have hl : (pcs bs A 92).length = 92 := pcs_len (by omega)
 rw [show leB 4 0 = [0, 0, 0, 0] by decide]
 exact pAt_appW (by rw [hl]; decide)
theorem usedP_t {ar : List UInt8} {i : Nat} (h : freeE (entA ar i) = true) : usedP ar (i + 1) = usedP ar i := by
 unfold usedP
 rw [List.range_succ, List.filterMap_append]
 simp [useP, h]
theorem usedP_f {ar : List UInt8} {i : Nat} (h : freeE (entA ar i) = false) : usedP ar (i + 1) = usedP ar i ++ [gpE ((i : Int) + 1) (entA ar i)] := by
 unfold usedP
 rw [List.range_succ, List.filterMap_append]
 simp [useP, h]
theorem usedP_le (ar : List UInt8) (i : Nat) : (usedP ar i).length ≤ i := by
 have := List.length_filterMap_le (useP ar) (List.range i)
 rw [List.length_range] at this
 exact this
theorem nmB_up (e : List UInt8) : encL (dec16 (upto0 (unE e))) = nmB e := rfl
theorem unE_rng (e : List UInt8) : ∀ u ∈ unE e, 0 ≤ u ∧ u ≤ 65535 := by
 intro u hu
 unfold unE at hu
 obtain ⟨j, _, rfl⟩ := List.mem_map.1 hu
 exact fld_rng2
theorem entA_len {bs : List UInt8} {R i : Nat} (h : R + 16384 ≤ bs.length) (hi : i < 128) : (entA (pcs bs R 16384) i).length = 128 := pcs_len (by rw [pcs_len h]; omega)
def GatIs (bs : List UInt8) (n a : Nat) (D : Option Addr) (m cap : Nat) (s : Int) (g : List UInt8) (X : List Value) : Prop :=
 (gatB bs n a = true → ∃ k : Nat, fld bs (a * 512 + 72) 8 = (k : Int) ∧ k * 512 + 16384 ≤ n * 512 ∧ m = (usedP (pcs bs (k * 512) 16384) 128).length ∧ X = (usedP (pcs bs (k * 512) 16384) 128).flatMap GP.cells ∧ s = 512 ∧ g = gT (pcs bs (a * 512 + 56) 16)) ∧
 (gatB bs n a = false → D = none ∧ m = 0 ∧ cap = 0 ∧ s = 0 ∧ g = [])
theorem gat_is {e : TypeId} {w w' : World} {v1 : Value} {bs : List UInt8} {n a : Nat}
  (r1 : gatB bs n a = true → ∃ (k : Nat) (D : Option Addr) (cap : Nat), fld bs (a * 512 + 72) 8 = (k : Int) ∧ k * 512 + 16384 ≤ n * 512 ∧ v1 = .agg (gtCells D (usedP (pcs bs (k * 512) 16384) 128).length cap 512 (gT (pcs bs (a * 512 + 56) 16)) false false).toArray ∧ OR e 8 w [] w' [] D (usedP (pcs bs (k * 512) 16384) 128).length cap ((usedP (pcs bs (k * 512) 16384) 128).flatMap GP.cells))
  (r2 : gatB bs n a = false → v1 = .agg (gtCells none 0 0 0 [] false false).toArray) (F : Fr [] w w') :
  ∃ D m cap s g X, v1 = .agg (gtCells D m cap s g false false).toArray ∧ OR e 8 w [] w' [] D m cap X ∧ GatIs bs n a D m cap s g X := by
 cases h : gatB bs n a with
 | true =>
  obtain ⟨k, D, cap, h1, h2, h3, O⟩ := r1 h
  exact ⟨D, _, cap, _, _, _, h3, O, fun _ => ⟨k, h1, h2, rfl, rfl, rfl, rfl⟩, fun h' => by rw [h] at h'; cases h'⟩
 | false => exact ⟨none, 0, 0, 0, [], [], r2 h, OR.nil ((SH.nil w).keep F), fun h' => (by rw [h] at h'; cases h'), fun _ => ⟨rfl, rfl, rfl, rfl, rfl⟩⟩
theorem gT_zero {x : List UInt8} (h : x.length = 16) : gT x = zG ↔ x = List.replicate 16 0 := by
 constructor
 ·intro e
  have e1 := gB_gT h
  rw [e, gB_zG] at e1
  exact e1.symm
 ·rintro rfl
  decide +kernel
end Go.Proofs.YthcaejaaalkglaaGreatDoor.X
/- Rows of entries: what came in, what is kept. -/
namespace Go.Proofs.YthcaejaaalkglaaGreatDoor.X
open Go
set_option linter.unusedVariables false
structure RM (w : World) (A : Option Addr) (m c : Nat) (qs : List MP) : Prop where
 len : qs.length = m
 cap : m ≤ c ∧ c ≤ maxLen
 nil : A = none → m = 0
 at' : ∀ j u, (qs.flatMap MP.cells)[j]? = some u → ∃ ad, A = some ad ∧ w.cell? (ad.add j) = some u
 ok : ∀ q ∈ qs, q.ok
theorem flat_index {qs : List MP} : ∀ (j : Nat) (u : Value), (qs.flatMap MP.cells)[j]? = some u → ∃ q, qs[j / 11]? = some q ∧ q.cells[j % 11]? = some u := by
 induction qs with
 | nil => intro j u h; simp at h
 | cons q l ih =>
  intro j u h
  simp only [List.flatMap_cons] at h
  by_cases hj : j < 11
  ·rw [List.getElem?_append_left (by rw [MP.cells_len]; exact hj)] at h
   rw [Nat.div_eq_of_lt hj, Nat.mod_eq_of_lt hj]
   exact ⟨q, rfl, h⟩
  ·rw [List.getElem?_append_right (by rw [MP.cells_len]; omega), MP.cells_len] at h
   obtain ⟨q', h1, h2⟩ := ih _ _ h
   refine ⟨q', ?_, ?_⟩
   ·rw [show j / 11 = (j - 11) / 11 + 1 by omega]; simpa using h1
   ·rw [show j % 11 = (j - 11) % 11 by omega]; exact h2
theorem RM.of {w : World} {v : Value} (h : Is w (.row 11 shpMP) [v]) : ∃ A m c qs, v = .slice A m c ∧ RM w A m c qs := by
 simp only [Is] at h
 rcases h with h | ⟨a, len, cap, h, hl, hc, hel⟩
 ·simp at h
  exact ⟨none, 0, 0, [], h, rfl, ⟨Nat.le_refl _, by decide⟩, fun _ => rfl, by simp, by simp⟩
 ·simp at h
  have key : ∀ n, n ≤ len → ∃ qs : List MP, qs.length = n ∧ (∀ i q, qs[i]? = some q → q.ok ∧ ∀ j u, q.cells[j]? = some u → w.cell? ((a.add (i * 11)).add j) = some u) := by
   intro n
   induction n with
   | zero => intro _; exact ⟨[], rfl, by simp⟩
   | succ n ih =>
    intro hn
    obtain ⟨qs, h1, h2⟩ := ih (by omega)
    obtain ⟨es, he1, he2, he3⟩ := hel n (by omega)
    obtain ⟨q, rfl, hq⟩ := mp_of he3
    refine ⟨qs ++ [q], by simp [h1], fun i q' hi => ?_⟩
    by_cases hin : i < qs.length
    ·rw [List.getElem?_append_left hin] at hi; exact h2 i q' hi
    ·rw [List.getElem?_append_right (by omega)] at hi
     have hi0 : i - qs.length = 0 := by
      have := (List.getElem?_eq_some_iff.1 hi).1
      simp at this; omega
     rw [hi0] at hi
     simp at hi
     subst hi
     obtain rfl : i = n := by omega
     exact ⟨hq, he2⟩
  obtain ⟨qs, h1, h2⟩ := key len (Nat.le_refl _)
  refine ⟨some a, len, cap, qs, h, h1, ⟨hl, hc⟩, fun h => (by cases h), fun j u hu => ⟨a, rfl, ?_⟩, fun q hq => ?_⟩
  ·obtain ⟨q, hq, hqu⟩ := flat_index j u hu
   have := (h2 _ _ hq).2 _ _ hqu
   rw [Addr.add_add] at this
   rwa [show j / 11 * 11 + j % 11 = j by omega] at this
  ·obtain ⟨i, hi, hq'⟩ := List.getElem_of_mem hq
   exact (h2 i q (by rw [List.getElem?_eq_getElem hi, hq'])).1
theorem mp_one {qs : List MP} : ∀ u ∈ qs.flatMap MP.cells, u.oneCell' = true := by
 intro u hu
 obtain ⟨q, _, hq⟩ := List.mem_flatMap.1 hu
 simp [MP.cells] at hq
 rcases hq with h | h | h | h | h | h | h | h | h | h | h <;> subst h <;> rfl
theorem flat_split {xs : List MP} {i : Nat} {x : MP} (h : xs[i]? = some x) : xs.flatMap MP.cells = (xs.take i).flatMap MP.cells ++ x.cells ++ (xs.drop (i + 1)).flatMap MP.cells := by
 have hi := (List.getElem?_eq_some_iff.1 h).1
 have hx : xs[i] = x := (List.getElem?_eq_some_iff.1 h).2
 have e : xs = xs.take i ++ [x] ++ xs.drop (i + 1) := by
  rw [← hx, List.append_assoc, List.singleton_append, ← List.drop_eq_getElem_cons hi, List.take_append_drop]
 conv => lhs; rw [e]
 simp
theorem flat_put {xs : List MP} {junk : List Value} {i : Nat} {x p : MP} (h : xs[i]? = some x) : (xs.flatMap MP.cells ++ junk).take (i * 11) ++ p.cells ++ (xs.flatMap MP.cells ++ junk).drop (i * 11 + 11) = (xs.set i p).flatMap MP.cells ++ junk := by
 have hi := (List.getElem?_eq_some_iff.1 h).1
 have hl : ((xs.take i).flatMap MP.cells).length = i * 11 := by rw [flat_len MP.cells_len]; simp; omega
 have h2 : (xs.set i p)[i]? = some p := by simp [hi]
 rw [flat_split h, flat_split h2]
 have e1 : (xs.set i p).take i = xs.take i := by rw [List.take_set_of_le (Nat.le_refl _)]
 have e2 : (xs.set i p).drop (i + 1) = xs.drop (i + 1) := by rw [List.drop_set_of_lt (by omega)]
 rw [e1, e2]
 simp only [List.append_assoc]
 rw [List.take_append_of_le_length (by omega), List.take_of_length_le (by omega)]
 congr 2
 rw [List.drop_append, hl, List.drop_of_length_le (by omega), List.nil_append, show i * 11 + 11 - i * 11 = 11 by omega, List.drop_append, MP.cells_len, List.drop_of_length_le (by rw [MP.cells_len]; omega)]
 simp
theorem flat_put0 {xs : List MP} {i : Nat} {x p : MP} (h : xs[i]? = some x) : (xs.flatMap MP.cells).take (i * 11) ++ p.cells ++ (xs.flatMap MP.cells).drop (i * 11 + 11) = (xs.set i p).flatMap MP.cells := by
 have := flat_put (junk := []) (p := p) h
 simpa using this
def arr4 (xs : List MP) (i : Nat) : List MP := xs.take i ++ List.replicate (4 - i) MP.zero
theorem arr4_len {xs : List MP} {i : Nat} (h : i ≤ xs.length) (h4 : i ≤ 4) : (arr4 xs i).length = 4 := by unfold arr4; simp; omega
theorem arr4_get {xs : List MP} {i : Nat} (h : i ≤ xs.length) (h4 : i < 4) : (arr4 xs i)[i]? = some MP.zero := by
 unfold arr4
 have hl : (xs.take i).length = i := by simp; omega
 rw [List.getElem?_append_right (by omega), hl, Nat.sub_self, List.getElem?_replicate, if_pos (by omega)]
theorem arr4_step {xs : List MP} {i : Nat} {p : MP} (h : i < xs.length) (h4 : i < 4) : (arr4 xs i).set i p = arr4 (xs.set i p) (i + 1) := by
 unfold arr4
 have e1 : (xs.set i p).take (i + 1) = xs.take i ++ [p] := by
  rw [List.take_add_one, List.take_set_of_le (Nat.le_refl _)]
  simp [h]
 have e2 : List.replicate (4 - i) MP.zero = MP.zero :: List.replicate (4 - (i + 1)) MP.zero := by
  rw [show 4 - i = (4 - (i + 1)) + 1 by omega, List.replicate_succ]
 have hl : (xs.take i).length = i := by simp; omega
 rw [e1, e2, List.set_append_right _ _ (by omega), hl, Nat.sub_self]
 simp
end Go.Proofs.YthcaejaaalkglaaGreatDoor.X
/- A table of a master boot record in memory, and as plain data. -/
namespace Go.Proofs.YthcaejaaalkglaaGreatDoor.X
set_option linter.unusedVariables false
open Go Go.RowKit
def mpAt (cur : List UInt8) (o k : Nat) : MP :=
 ⟨k, decide (((cur.getD (o + 0) 0).toNat : Int) = 128), (cur.getD (o + 4) 0).toNat, leV ((cur.drop (o + 8)).take 4), leV ((cur.drop (o + 12)).take 4), (cur.getD (o + 3) 0).toNat, (cur.getD (o + 1) 0).toNat, (cur.getD (o + 2) 0).toNat, (cur.getD (o + 7) 0).toNat, (cur.getD (o + 5) 0).toNat, (cur.getD (o + 6) 0).toNat⟩
def mpsOf (cur : List UInt8) : List MP := [mpAt cur 446 1, mpAt cur 462 2, mpAt cur 478 3, mpAt cur 494 4]
theorem mpsOf_get {cur : List UInt8} {i : Nat} (h : i < 4) : (mpsOf cur)[i]? = some (mpAt cur (446 + 16 * i) (i + 1)) := by
 match i, h with
 | 0, _ => rfl
 | 1, _ => rfl
 | 2, _ => rfl
 | 3, _ => rfl
def sigB (cur : List UInt8) : Bool := decide ((cur.drop 510).take 2 = [85, 170])
def flagsB (cur : List UInt8) : Prop := ∀ i, i < 4 → ((cur.getD (446 + 16 * i) 0).toNat : Int) = 0 ∨ ((cur.getD (446 + 16 * i) 0).toNat : Int) = 128
def ptCells (q : MP) (u : List UInt8) : List Value := q.cells ++ [.int .i64 512, .int .i64 512, .string (str u)]
def rowOk (cur : List UInt8) (l : PL) : Prop := ∀ i x, l[i]? = some x → ∃ u, x.2 = ptCells (mpAt cur (446 + 16 * i) (i + 1)) u
def MadeTab (TT TP PT : TypeId) (w w' : World) (cur : List UInt8) (v : Value) : Prop :=
 ∃ (t r cap : Nat) (junk : List Value) (l : PL) (uu : List UInt8), v = .pointer (some ⟨t, 0, none⟩) ∧ l.length = 4 ∧ rowOk cur l ∧
  SH w [] w' (⟨t, .cells [.slice (some ⟨r, 0, none⟩) 4 cap, .int .i64 512, .int .i64 512, .string (str uu)].toArray TT (0, 0), true⟩ :: ⟨r, .cells (ptrs l ++ junk).toArray TP (0, 0), true⟩ :: ents PT l)
theorem sig_at {ds : List UInt8} (h : 512 ≤ ds.length) : sigB ds = decide ((((ds.getD 510 0).toNat : Int) = 85) ∧ (((ds.getD 511 0).toNat : Int) = 170)) := by
 unfold sigB
 have e : (ds.drop 510).take 2 = [ds.getD 510 0, ds.getD 511 0] := by
  apply List.ext_getElem?
  intro i
  rw [List.getElem?_take]
  match i with
  | 0 => simp [List.getD_eq_getElem?_getD, show 510 < ds.length by omega]
  | 1 => simp [List.getD_eq_getElem?_getD, show 511 < ds.length by omega]
  | i + 2 => simp; omega
 rw [e]
 refine decide_eq_decide.2 ?_
 simp only [List.cons.injEq, and_true]
 have h1 : ∀ (u : UInt8) (k : Nat), k < 256 → (u = UInt8.ofNat k ↔ (u.toNat : Int) = k) := fun u k hk => by
  constructor
  ·rintro rfl; simp; omega
  ·intro h; apply UInt8.toNat.inj; simp; omega
 have a := h1 (ds.getD 510 0) 85 (by decide)
 have b := h1 (ds.getD 511 0) 170 (by decide)
 exact and_congr a b
theorem RM.elem {w : World} {ad : Addr} {m c i : Nat} {qs : List MP} {q : MP} (h : RM w (some ad) m c qs) (hq : qs[i]? = some q) : ∀ j v, q.cells[j]? = some v → w.cell? ((ad.add (i * 11)).add j) = some v := by
 intro j v hv
 have hg := flat_get MP.cells_len qs i q hq
 have hj : j < 11 := by have := (List.getElem?_eq_some_iff.1 hv).1; rwa [MP.cells_len] at this
 have e : (qs.flatMap MP.cells)[i * 11 + j]? = some v := by
  rw [← hv, ← hg, List.getElem?_take, if_pos hj, List.getElem?_drop]
 obtain ⟨ad', he, hc⟩ := h.at' _ v e
 obtain rfl := Option.some.inj he
 rw [Addr.add_add]; exact hc
theorem RM.keep {w w' : World} {A : Option Addr} {m c : Nat} {qs : List MP} (h : RM w A m c qs) (f : Fr [] w w') : RM w' A m c qs :=
 ⟨h.len, h.cap, h.nil, fun j u hu => let ⟨ad, e, hc⟩ := h.at' j u hu; ⟨ad, e, f.cell hc (by simp)⟩, h.ok⟩
end Go.Proofs.YthcaejaaalkglaaGreatDoor.X
/- A table that is written. -/
namespace Go.Proofs.YthcaejaaalkglaaGreatDoor.X
set_option linter.unusedVariables false
open Go Go.RowKit
def entCells (q : MP) : List Value := q.cells ++ [.int .i64 0, .int .i64 0, .string (str [])]
def rowQ (qs : List MP) (l : PL) : Prop := ∀ (i : Nat) (x : Nat × List Value), l[i]? = some x → ∃ q, qs[i]? = some q ∧ x.2 = entCells q
structure TabAt (TT PT : TypeId) (w : World) (t : Nat) (A : Option Addr) (k cap : Nat) (l : PL) (qs : List MP) : Prop where
 tab : w.heap[t]? = some (.cells [.slice A k cap, .int .i64 512, .int .i64 512, .string (str [])].toArray TT (0, 0))
 len : l.length = k ∧ qs.length = k
 row : ∀ (i : Nat) (x : Nat × List Value), l[i]? = some x → ∃ ad, A = some ad ∧ w.cell? (ad.add i) = some (.pointer (some ⟨x.1, 0, none⟩))
 blk : ∀ (i : Nat) (x : Nat × List Value), l[i]? = some x → w.heap[x.1]? = some (.cells x.2.toArray PT (0, 0))
 q : rowQ qs l
theorem TabAt.keep {TT PT : TypeId} {w w' : World} {t : Nat} {A : Option Addr} {k cap : Nat} {l : PL} {qs : List MP} (h : TabAt TT PT w t A k cap l qs) (f : Fr [] w w') : TabAt TT PT w' t A k cap l qs :=
 ⟨f.at h.tab (by simp), h.len, fun i x hx => let ⟨ad, e, hc⟩ := h.row i x hx; ⟨ad, e, f.cell hc (by simp)⟩, fun i x hx => f.at (h.blk i x hx) (by simp), h.q⟩
theorem TabAt.now {TT PT : TypeId} {w w' : World} {t : Nat} {A : Option Addr} {k cap : Nat} {l : PL} {qs : List MP} {S : List Nat} (h : TabAt TT PT w t A k cap l qs) (f : Fr S w w') (ht : t ∉ S) (hA : ∀ ad, A = some ad → ad.block ∉ S) (hl : ∀ (i : Nat) (x : Nat × List Value), l[i]? = some x → x.1 ∉ S) : TabAt TT PT w' t A k cap l qs :=
 ⟨f.at h.tab ht, h.len, fun i x hx => let ⟨ad, e, hc⟩ := h.row i x hx; ⟨ad, e, f.cell hc (by rw [addr_mul]; exact hA ad e)⟩, fun i x hx => f.at (h.blk i x hx) (hl i x hx), h.q⟩
theorem le4_rng (l : List UInt8) : 0 ≤ leV (l.take 4) ∧ leV (l.take 4) ≤ 4294967295 := by
 have h := leV_rng (l.take 4)
 have h2 : ((256 ^ (l.take 4).length : Nat) : Int) ≤ ((256 ^ 4 : Nat) : Int) := Int.ofNat_le.2 (Nat.pow_le_pow_right (by decide) (by simp; omega))
 rw [Int.natCast_pow, Int.natCast_pow, show ((256 : Nat) : Int) = 256 from rfl] at h2
 have h3 : (256 : Int) ^ 4 = 4294967296 := by decide
 omega
theorem set_same {α : Type} {xs : List α} {i : Nat} {p : α} (h : xs[i]? = some p) : xs.set i p = xs := by
 apply List.ext_getElem?
 intro j
 rw [List.getElem?_set]
 split
 ·rename_i e; subst e
  split
  ·exact h.symm
  ·rename_i hl; exact (List.getElem?_eq_none (by omega)).symm
 ·rfl
theorem arr4_put {xs : List MP} {i : Nat} {p : MP} (h : xs[i]? = some p) (h4 : i < 4) : ((arr4 xs i).flatMap MP.cells).take (i * 11) ++ p.cells ++ ((arr4 xs i).flatMap MP.cells).drop (i * 11 + 11) = (arr4 xs (i + 1)).flatMap MP.cells := by
 have hi := (List.getElem?_eq_some_iff.1 h).1
 have e := arr4_step (xs := xs) (p := p) hi h4
 rw [set_same h] at e
 rw [← e]
 exact flat_put0 (arr4_get (by omega) h4)
theorem RM.own {w : World} {b cap : Nat} {xs : List MP} {junk : List Value} {T : TypeId} {fr : Nat × Nat} (h : w.heap[b]? = some (.cells (xs.flatMap MP.cells ++ junk).toArray T fr)) (hc : xs.length ≤ cap ∧ cap ≤ maxLen) (ok : ∀ x ∈ xs, x.ok) : RM w (some ⟨b, 0, none⟩) xs.length cap xs :=
 ⟨rfl, hc, fun h => (by cases h), fun j u hu => ⟨_, rfl, by
  rw [Addr.add_lit, cell_at h, Nat.zero_add, List.getElem?_append_left (List.getElem?_eq_some_iff.1 hu).1]; exact hu⟩, ok⟩
end Go.Proofs.YthcaejaaalkglaaGreatDoor.X
