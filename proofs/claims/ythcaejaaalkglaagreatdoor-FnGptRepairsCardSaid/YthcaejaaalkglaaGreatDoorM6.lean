/- Laws and walks on the road to the statement: P23, P24, P25, P26, P27, GptLaw, GptLaw2, GptSmall, GptLaid, P28, GptBack, GptProt, P29. -/
import Derived.Test.YthcaejaaalkglaaGreatDoorM5
/- Walks of functions, printed by a program of this claim. -/
namespace Go.Proofs.YthcaejaaalkglaaGreatDoor.X
set_option linter.unusedVariables false
set_option linter.unusedSimpArgs false
open Go Go.RowKit
namespace PF
theorem bo24 : buildOK Tryz.prog 24 = true := by kernel_rfl
theorem bo54 : buildOK Tryz.prog 54 = true := by kernel_rfl
theorem fo106_3 : fieldOff Tryz.prog 106 3 = some 3 := by kernel_rfl
theorem fo126_0 : fieldOff Tryz.prog 126 0 = some 0 := by kernel_rfl
theorem fo126_4 : fieldOff Tryz.prog 126 4 = some 4 := by kernel_rfl
theorem fo126_5 : fieldOff Tryz.prog 126 5 = some 5 := by kernel_rfl
theorem fo126_6 : fieldOff Tryz.prog 126 6 = some 6 := by kernel_rfl
theorem fo126_7 : fieldOff Tryz.prog 126 7 = some 7 := by kernel_rfl
theorem pl24_1 : placeOf Tryz.prog 24 1 = some (1, 1) := by kernel_rfl
theorem pl24_2 : placeOf Tryz.prog 24 2 = some (2, 1) := by kernel_rfl
theorem pl24_3 : placeOf Tryz.prog 24 3 = some (3, 1) := by kernel_rfl
theorem pl24_4 : placeOf Tryz.prog 24 4 = some (4, 1) := by kernel_rfl
theorem pl54_0 : placeOf Tryz.prog 54 0 = some (0, 1) := by kernel_rfl
theorem pl54_1 : placeOf Tryz.prog 54 1 = some (1, 1) := by kernel_rfl
theorem pl54_2 : placeOf Tryz.prog 54 2 = some (2, 1) := by kernel_rfl
theorem pl54_3 : placeOf Tryz.prog 54 3 = some (3, 1) := by kernel_rfl
theorem pl54_4 : placeOf Tryz.prog 54 4 = some (4, 1) := by kernel_rfl
theorem pl54_5 : placeOf Tryz.prog 54 5 = some (5, 1) := by kernel_rfl
theorem pl54_6 : placeOf Tryz.prog 54 6 = some (6, 1) := by kernel_rfl
theorem pl54_7 : placeOf Tryz.prog 54 7 = some (7, 1) := by kernel_rfl
theorem ri54 : rowInfo Tryz.prog 54 = some ([.int .i64 0, .int .u64 0, .int .u64 0, .int .u64 0, .string ⟨#[]⟩, .string ⟨#[]⟩, .string ⟨#[]⟩, .int .u64 0], 88) := by kernel_rfl
theorem sc123 : scalarB Tryz.prog 123 = true := by kernel_rfl
theorem sc124 : scalarB Tryz.prog 124 = true := by kernel_rfl
theorem ze24 : zeroL Tryz.prog 24 = some [.slice none 0 0, .int .i64 0, .string ⟨#[]⟩, .bool false, .bool false] := by kernel_rfl
end PF
open PF
set_option maxRecDepth 100000 in
set_option maxHeartbeats 1000000 in
theorem c_told (w : World) (p : Nat) (D : Option Addr) (cap : Nat) (l : PL) (qs : List GP) (g : List UInt8) (pr rb ini : Bool) (cnt esz frm crc my oth fi lx : Int) (hp : w.heap[p]? = some (.cells (tbC D l.length cap 512 512 g pr rb cnt esz frm crc my oth fi lx ini).toArray 106 (0, 0))) (hr : PR 126 w D l) (hl : l.map Prod.snd = qs.map pc) (hm : l.length ≤ 200) : Calls Tryz.prog 38 #[.pointer (some ⟨p, 0, none⟩)] w (Ret fun v w' => ∃ D2 cap2, v = .agg (gtCells D2 l.length cap2 512 g pr rb).toArray ∧ OR 54 8 w [] w' [] D2 l.length cap2 (qs.flatMap GP.cells)) := by
 refine enterR [.cell 2 24] Tryz.func38 rfl rfl rfl rfl ?_
 have H := SH.nil w
 have hql : qs.length = l.length := by have := congrArg List.length hl; simpa using this.symm
 have t0 : w.cell? ⟨p, 0, none⟩ = some (.slice D l.length cap) := cell_at hp
 have t1 : w.cell? ⟨p, 1, none⟩ = some (.int .i64 512) := cell_at hp
 have t3 : w.cell? ⟨p, 3, none⟩ = some (.string (str g)) := cell_at hp
 have t4 : w.cell? ⟨p, 4, none⟩ = some (.bool pr) := cell_at hp
 have t5 : w.cell? ⟨p, 5, none⟩ = some (.bool rb) := cell_at hp
 refine sq ?_
 refine rg ?_
 refine al H ze24 rfl ?_
 clear H; intro b1 w1 hb1 H _
 refine nl ?_
 refine then_n ?_
 refine sq ?_
 refine dr (by kernel_rfl) ?_
 have H := H.drew
 refine hold (fun _ => True) [] ?_
 refine tk (i := 0) rfl (by kernel_rfl) rfl trivial (fun _ _ => r_mv (v := .pointer _) rfl) ?_
 refine tk (i := 1) rfl (by kernel_rfl) rfl trivial (fun _ _ => r_nc rfl) ?_
 refine tk (i := 2) rfl (by kernel_rfl) rfl trivial (fun _ _ => r_fa rfl fo106_1) ?_
 refine tk (i := 4) rfl (by kernel_rfl) rfl trivial (fun _ _ => r_mv (v := .pointer _) rfl) ?_
 refine tk (i := 5) rfl (by kernel_rfl) rfl trivial (fun _ _ => r_nc rfl) ?_
 refine tk (i := 6) rfl (by kernel_rfl) rfl trivial (fun _ _ => r_fa rfl fo106_3) ?_
 refine tk (i := 8) rfl (by kernel_rfl) rfl trivial (fun _ _ => r_mv (v := .pointer _) rfl) ?_
 refine tk (i := 9) rfl (by kernel_rfl) rfl trivial (fun _ _ => r_nc rfl) ?_
 refine tk (i := 10) rfl (by kernel_rfl) rfl trivial (fun _ _ => r_fa rfl fo106_4) ?_
 refine tk (i := 12) rfl (by kernel_rfl) rfl trivial (fun _ _ => r_mv (v := .pointer _) rfl) ?_
 refine tk (i := 13) rfl (by kernel_rfl) rfl trivial (fun _ _ => r_nc rfl) ?_
 refine tk (i := 14) rfl (by kernel_rfl) rfl trivial (fun _ _ => r_fa rfl fo106_5) ?_
 refine unfree ?_
 refine holdH H [18] ?_
 refine tk (i := 3) rfl (by kernel_rfl) rfl H (fun w' H => r_lc rfl (by first | assumption | exact H.fr.cell (by assumption) (by simp)) sc3) ?_
 refine tk (i := 7) rfl (by kernel_rfl) rfl H (fun w' H => r_lc rfl (by first | assumption | exact H.fr.cell (by assumption) (by simp)) sc9) ?_
 refine tk (i := 11) rfl (by kernel_rfl) rfl H (fun w' H => r_lc rfl (by first | assumption | exact H.fr.cell (by assumption) (by simp)) sc4) ?_
 refine tk (i := 15) rfl (by kernel_rfl) rfl H (fun w' H => r_lc rfl (by first | assumption | exact H.fr.cell (by assumption) (by simp)) sc4) ?_
 refine tkbu (out := ?o1) (i := 16) rfl (by kernel_rfl) rfl H ze24 bo24 ?f1 ?_
 case f1 =>
  refine FL.one (v := .int .i64 _) rfl pl24_1 rfl (by first | decide | simp) ?_
  refine FL.one (v := .string _) rfl pl24_2 rfl (by first | decide | simp) ?_
  refine FL.one (v := .bool _) rfl pl24_3 rfl (by first | decide | simp) ?_
  refine FL.one (v := .bool _) rfl pl24_4 rfl (by first | decide | simp) ?_
  exact FL.nil
 refine fk (i := 17) (by kernel_rfl) rfl rfl rfl ?_
 refine al H ze24 rfl ?_
 clear H; intro b2 w2 hb2 H _
 refine nl ?_
 refine then_n ?_
 refine ⟨H.drop, ?_⟩
 refine fb (i := 18) (by kernel_rfl) rfl rfl rfl ?_
 refine sa H rfl rfl ag24_5 rfl rfl (by decide) (by omega) rfl ?_
 clear H; intro w3 H _
 refine nl ?_
 refine then_n ?_
 refine dn (by kernel_rfl) ?_
 refine then_n ?_
 refine sq ?_
 refine sq ?_
 refine rg ?_
 refine mv (v := .pointer _) rfl rfl ?_
 refine nc rfl rfl ?_
 refine fa rfl fo106_0 rfl ?_
 refine lc rfl (by first | assumption | exact H.fr.cell (by assumption) (by simp)) sc104 rfl ?_
 refine lnS rfl Tryz.underlying104 rfl ?_
 refine mv (v := .int .i64 _) rfl rfl ?_
 refine nl ?_
 refine then_n ?_
 refine bk ?_
 refine lpM (α := Nat × Option Addr × Nat) [5, 28, 29, 30, 31, 32, 33, 34, 35, 36, 37, 38, 39, 40, 41, 42, 43, 44, 45, 46, 47, 48, 49, 50, 51, 52, 53, 54, 55, 56, 57, 58, 59, 60, 61, 62, 63, 64, 65, 66, 67, 68, 69, 70] (fun (i, D2, cap2) => [(28, .int .i64 (i : Int))]) (fun (i, D2, cap2) w' => i ≤ l.length ∧ OR 54 8 w [] w' [⟨b2, .cells (gtCells D2 i cap2 512 g pr rb).toArray 24 (0, 0), true⟩, ⟨b1, .cells (gtCells none 0 0 0 [] false false).toArray 24 (0, 0), true⟩] D2 i cap2 ((qs.take i).flatMap GP.cells)) (fun (i, D2, cap2) => l.length - i) (0, none, 0) ?_ (fCX (fN _)) ?_
 ·exact ⟨by omega, OR.nil H⟩
 ·rintro ⟨i, D2, cap2⟩ ρx w4 ⟨hi, O⟩
  have H := O.sh
  refine sq ?_
  refine rg ?_
  refine lss rfl rfl rfl ?_
  refine nl ?_
  refine then_n ?_
  refine sq ?_
  refine cd rfl (fun hc1 => ?_) (fun hc1 => ?_)
  ·obtain ⟨x, hx⟩ : ∃ x, l[i]? = some x := ⟨_, List.getElem?_eq_getElem (by omega)⟩
   obtain ⟨q, hq⟩ : ∃ q, qs[i]? = some q := ⟨_, List.getElem?_eq_getElem (by omega)⟩
   obtain ⟨ad, rfl, hx1, hx2⟩ := hr i x hx
   have hxq : x.2 = pc q := by
    have e := congrArg (fun m => m[i]?) hl
    simpa [hx, hq] using e
   rw [hxq] at hx2
   have k0 : w.cell? ⟨x.1, 0, none⟩ = some (.int .i64 q.ix) := cell_at hx2
   have k1 : w.cell? ⟨x.1, 1, none⟩ = some (.int .u64 q.st) := cell_at hx2
   have k2 : w.cell? ⟨x.1, 2, none⟩ = some (.int .u64 q.en) := cell_at hx2
   have k3 : w.cell? ⟨x.1, 3, none⟩ = some (.int .u64 q.sz) := cell_at hx2
   have k4 : w.cell? ⟨x.1, 4, none⟩ = some (.string (str q.ty)) := cell_at hx2
   have k5 : w.cell? ⟨x.1, 5, none⟩ = some (.string (str q.nm)) := cell_at hx2
   have k6 : w.cell? ⟨x.1, 6, none⟩ = some (.string (str q.gu)) := cell_at hx2
   have k7 : w.cell? ⟨x.1, 7, none⟩ = some (.int .u64 q.att) := cell_at hx2
   refine sk ?_
   refine then_n ?_
   refine sq ?_
   refine bk ?_
   refine sq ?_
   refine rg ?_
   refine iA rfl rfl Tryz.underlying104 sz123_1 (by omega) rfl ?_
   refine lc rfl (by first | assumption | exact H.fr.cell (by assumption) (by simp)) sc123 rfl ?_
   refine asg (v := .pointer _) rfl rfl ?_
   refine nl ?_
   refine then_n ?_
   refine dr (by kernel_rfl) ?_
   have H := H.drew
   replace O := O.drew
   refine hold (fun w' => SH w [] w' [⟨b2, .cells (gtCells D2 i cap2 512 g pr rb).toArray 24 (0, 0), true⟩, ⟨b1, .cells (gtCells none 0 0 0 [] false false).toArray 24 (0, 0), true⟩]) [38] ?_
   refine tk (i := 0) rfl (by kernel_rfl) rfl (H.subX) (fun w' H => r_fa rfl fo24_0) ?_
   refine tk (i := 1) rfl (by kernel_rfl) rfl (H.subX) (fun w' H => r_ld H rfl sc22 rfl) ?_
   refine tk (i := 2) rfl (by kernel_rfl) rfl (H.subX) (fun w' H => r_mv (v := .pointer _) rfl) ?_
   refine tk (i := 3) rfl (by kernel_rfl) rfl (H.subX) (fun w' H => r_nc rfl) ?_
   refine tk (i := 4) rfl (by kernel_rfl) rfl (H.subX) (fun w' H => r_fa rfl fo126_0) ?_
   refine tk (i := 5) rfl (by kernel_rfl) rfl (H.subX) (fun w' H => r_lc rfl (by first | assumption | exact H.fr.cell (by assumption) (by simp)) sc3) ?_
   refine tk (i := 6) rfl (by kernel_rfl) rfl (H.subX) (fun w' H => r_mv (v := .pointer _) rfl) ?_
   refine tk (i := 7) rfl (by kernel_rfl) rfl (H.subX) (fun w' H => r_nc rfl) ?_
   refine tk (i := 8) rfl (by kernel_rfl) rfl (H.subX) (fun w' H => r_fa rfl fo126_1) ?_
   refine tk (i := 9) rfl (by kernel_rfl) rfl (H.subX) (fun w' H => r_lc rfl (by first | assumption | exact H.fr.cell (by assumption) (by simp)) sc28) ?_
   refine tk (i := 10) rfl (by kernel_rfl) rfl (H.subX) (fun w' H => r_mv (v := .pointer _) rfl) ?_
   refine tk (i := 11) rfl (by kernel_rfl) rfl (H.subX) (fun w' H => r_nc rfl) ?_
   refine tk (i := 12) rfl (by kernel_rfl) rfl (H.subX) (fun w' H => r_fa rfl fo126_2) ?_
   refine tk (i := 13) rfl (by kernel_rfl) rfl (H.subX) (fun w' H => r_lc rfl (by first | assumption | exact H.fr.cell (by assumption) (by simp)) sc28) ?_
   refine tk (i := 14) rfl (by kernel_rfl) rfl (H.subX) (fun w' H => r_mv (v := .pointer _) rfl) ?_
   refine tk (i := 15) rfl (by kernel_rfl) rfl (H.subX) (fun w' H => r_nc rfl) ?_
   refine tk (i := 16) rfl (by kernel_rfl) rfl (H.subX) (fun w' H => r_fa rfl fo126_3) ?_
   refine tk (i := 17) rfl (by kernel_rfl) rfl (H.subX) (fun w' H => r_lc rfl (by first | assumption | exact H.fr.cell (by assumption) (by simp)) sc28) ?_
   refine tk (i := 18) rfl (by kernel_rfl) rfl (H.subX) (fun w' H => r_mv (v := .pointer _) rfl) ?_
   refine tk (i := 19) rfl (by kernel_rfl) rfl (H.subX) (fun w' H => r_nc rfl) ?_
   refine tk (i := 20) rfl (by kernel_rfl) rfl (H.subX) (fun w' H => r_fa rfl fo126_4) ?_
   refine tk (i := 21) rfl (by kernel_rfl) rfl (H.subX) (fun w' H => r_lc rfl (by first | assumption | exact H.fr.cell (by assumption) (by simp)) sc124) ?_
   refine tk (i := 22) rfl (by kernel_rfl) rfl (H.subX) (fun w' H => r_mv (v := .pointer _) rfl) ?_
   refine tk (i := 23) rfl (by kernel_rfl) rfl (H.subX) (fun w' H => r_nc rfl) ?_
   refine tk (i := 24) rfl (by kernel_rfl) rfl (H.subX) (fun w' H => r_fa rfl fo126_5) ?_
   refine tk (i := 25) rfl (by kernel_rfl) rfl (H.subX) (fun w' H => r_lc rfl (by first | assumption | exact H.fr.cell (by assumption) (by simp)) sc9) ?_
   refine tk (i := 26) rfl (by kernel_rfl) rfl (H.subX) (fun w' H => r_mv (v := .pointer _) rfl) ?_
   refine tk (i := 27) rfl (by kernel_rfl) rfl (H.subX) (fun w' H => r_nc rfl) ?_
   refine tk (i := 28) rfl (by kernel_rfl) rfl (H.subX) (fun w' H => r_fa rfl fo126_6) ?_
   refine tk (i := 29) rfl (by kernel_rfl) rfl (H.subX) (fun w' H => r_lc rfl (by first | assumption | exact H.fr.cell (by assumption) (by simp)) sc9) ?_
   refine tk (i := 30) rfl (by kernel_rfl) rfl (H.subX) (fun w' H => r_mv (v := .pointer _) rfl) ?_
   refine tk (i := 31) rfl (by kernel_rfl) rfl (H.subX) (fun w' H => r_nc rfl) ?_
   refine tk (i := 32) rfl (by kernel_rfl) rfl (H.subX) (fun w' H => r_fa rfl fo126_7) ?_
   refine tk (i := 33) rfl (by kernel_rfl) rfl (H.subX) (fun w' H => r_lc rfl (by first | assumption | exact H.fr.cell (by assumption) (by simp)) sc28) ?_
   refine tkbu (out := ?o2) (i := 34) rfl (by kernel_rfl) rfl (H.subX) ze54 bo54 ?f2 ?_
   case f2 =>
    refine FL.one (v := .int .i64 _) rfl pl54_0 rfl (by first | decide | simp) ?_
    refine FL.one (v := .int .u64 _) rfl pl54_1 rfl (by first | decide | simp) ?_
    refine FL.one (v := .int .u64 _) rfl pl54_2 rfl (by first | decide | simp) ?_
    refine FL.one (v := .int .u64 _) rfl pl54_3 rfl (by first | decide | simp) ?_
    refine FL.one (v := .string _) rfl pl54_4 rfl (by first | decide | simp) ?_
    refine FL.one (v := .string _) rfl pl54_5 rfl (by first | decide | simp) ?_
    refine FL.one (v := .string _) rfl pl54_6 rfl (by first | decide | simp) ?_
    refine FL.one (v := .int .u64 _) rfl pl54_7 rfl (by first | decide | simp) ?_
    exact FL.nil
   refine fk (i := 35) (by kernel_rfl) rfl rfl rfl ?_
   refine bsl (sz := 8) (out := ?o3) H Tryz.underlying22 ze54 sz54_8 (by decide) ?f3 rfl ?_
   case f3 =>
    refine FS.agg (vs := _) rfl rfl (by first | decide | simp) ?_
    exact FS.nil
   intro b3 w5 hb3 H1 F; replace O := O.new F hb3 H1.look; clear H H1 F; have H := O.sh
   refine nl ?_
   refine then_n ?_
   refine ⟨H.subX, ?_⟩
   refine fk (i := 36) (by kernel_rfl) rfl rfl rfl ?_
   refine apO (zs := [.int .i64 0, .int .u64 0, .int .u64 0, .int .u64 0, .string ⟨#[]⟩, .string ⟨#[]⟩, .string ⟨#[]⟩, .int .u64 0]) q.cells O rfl rfl Tryz.underlying22 ri54 (by first | rfl | simp) (cells_look H.look) (List.all_eq_true.1 q.cells_one) (by simp) (by omega) (by unfold maxLen; omega) rfl ?_
   clear O H; intro D9 cp9 w6 O
   replace O := O.drop; have H := O.sh
   refine nl ?_
   refine then_n ?_
   refine ⟨H.subX, ?_⟩
   refine tk (i := 37) rfl (by kernel_rfl) rfl (H.subX) (fun w' H => r_fa rfl fo24_0) ?_
   refine fb (i := 38) (by kernel_rfl) rfl rfl rfl ?_
   refine st (v := .slice _ _ _) H rfl rfl sc22 rfl (by show 0 + 0 < 5; decide) (by omega) ?_
   intro w95 H1 F; replace O := O.put F H1.look; clear H H1 F; have H := O.sh
   refine nl ?_
   refine then_n ?_
   refine dn (by kernel_rfl) ?_
   refine in_n ?_
   refine then_n ?_
   refine rg ?_
   refine add rfl rfl (by first | exact w_i64 (by omega) | exact w_i64 (rng_i64 _) | rfl) rfl ?_
   refine mv (v := .int .i64 _) rfl rfl ?_
   refine nl ?_
   refine loop_n ?_
   exact ⟨(i + 1, D9, cp9), (by (try dsimp only); omega), ⟨by omega, by rw [take_succ_get hq, List.flatMap_append]; exact O⟩, (fCX (fN _)), agX⟩
  ·refine ex ?_
   refine then_e ?_
   refine loop_e ?_
   refine in_hit rfl ?_
   refine then_n ?_
   refine sq ?_
   refine rg ?_
   refine la (vs := gtCells D2 i cap2 512 g pr rb) H rfl ag24_5 rfl rfl rfl ?_
   refine sa (cs' := gtCells D2 i cap2 512 g pr rb) H rfl rfl ag24_5 rfl rfl (by show 0 + 5 ≤ 5; decide) (by omega) rfl ?_
   intro w96 H96 F96; replace O := O.put F96 H96.look; clear H H96 F96; have H := O.sh
   refine nl ?_
   refine then_n ?_
   refine rt ?_
   refine finR_r ?_
   obtain rfl : i = l.length := by omega
   rw [List.take_of_length_le (by omega)] at O
   exact ⟨[_], ⟨finC rfl (H.look (b := b1)) ag24_5, trivial⟩, _, _, rfl, O.sub (List.nil_sublist _)⟩
end Go.Proofs.YthcaejaaalkglaaGreatDoor.X
/- Walks of functions, printed by a program of this claim. -/
namespace Go.Proofs.YthcaejaaalkglaaGreatDoor.X
set_option linter.unusedVariables false
set_option linter.unusedSimpArgs false
open Go Go.RowKit
namespace PF
theorem ca30 : callable Tryz.prog 30 = true := by kernel_rfl
theorem ca31 : callable Tryz.prog 31 = true := by kernel_rfl
theorem ca38 : callable Tryz.prog 38 = true := by kernel_rfl
end PF
open PF
set_option maxRecDepth 100000 in
set_option maxHeartbeats 1000000 in
theorem c_implGptRead (w : World) (B : Option Addr) (n c : Nat) (ds : List UInt8) (hR : RB w B n ds) (hL : 34816 ≤ n ∧ n ≤ 10000000) (b f : Nat) (hLb : n = 512 * (b + 1)) (hf : 512 * f + 16384 ≤ n) (hcan1 : hdrGood ds 512 = true → fld ds 584 8 = 2 ∧ fld ds 592 4 = 128 ∧ fld ds 596 4 = 128) (hcan2 : hdrGood ds (512 * b) = true → fld ds (512 * b + 72) 8 = (f : Int) ∧ fld ds (512 * b + 80) 4 = 128 ∧ fld ds (512 * b + 84) 4 = 128) (hfit1 : fitsB ds 512 512 = true) (hfit2 : fitsB ds 512 (512 * b) = true) : Calls Tryz.prog 17 #[.slice B n c, .int .i64 512] w (Ret fun v w' => Fr [] w w' ∧ ∃ v1, v = .tuple #[v1, .bool ((hdrGood ds 512 && decide (fld ds 600 4 = crc32 (pcs ds 1024 16384))) || (hdrGood ds (512 * b) && decide (fld ds (512 * b + 24) 8 = (b : Int)) && decide (fld ds (512 * b + 88) 4 = crc32 (pcs ds (512 * f) 16384))))] ∧ ((hdrGood ds 512 && decide (fld ds 600 4 = crc32 (pcs ds 1024 16384))) = true → ∃ D2 cap2, v1 = .agg (gtCells D2 (usedP (pcs ds 1024 16384) 128).length cap2 512 (gT (pcs ds 568 16)) (protB (pcs ds 0 512) (fld ds 544 8 % 4294967296)) false).toArray ∧ OR 54 8 w [] w' [] D2 (usedP (pcs ds 1024 16384) 128).length cap2 ((usedP (pcs ds 1024 16384) 128).flatMap GP.cells)) ∧ ((hdrGood ds 512 && decide (fld ds 600 4 = crc32 (pcs ds 1024 16384))) = false → (hdrGood ds (512 * b) && decide (fld ds (512 * b + 24) 8 = (b : Int)) && decide (fld ds (512 * b + 88) 4 = crc32 (pcs ds (512 * f) 16384))) = true → ∃ D2 cap2, v1 = .agg (gtCells D2 (usedP (pcs ds (512 * f) 16384) 128).length cap2 512 (gT (pcs ds (512 * b + 56) 16)) (protB (pcs ds 0 512) ((fld ds (512 * b + 24) 8) % 4294967296)) true).toArray ∧ OR 54 8 w [] w' [] D2 (usedP (pcs ds (512 * f) 16384) 128).length cap2 ((usedP (pcs ds (512 * f) 16384) 128).flatMap GP.cells)) ∧ ((hdrGood ds 512 && decide (fld ds 600 4 = crc32 (pcs ds 1024 16384))) = false → (hdrGood ds (512 * b) && decide (fld ds (512 * b + 24) 8 = (b : Int)) && decide (fld ds (512 * b + 88) 4 = crc32 (pcs ds (512 * f) 16384))) = false → v1 = .agg (gtCells none 0 0 0 [] false false).toArray)) := by
 refine enterR [.cell 4 24, .tmp 5] Tryz.func17 rfl rfl rfl rfl ?_
 have H := SH.nil w
 have hdl := hR.1
 refine sq ?_
 refine rg ?_
 refine al H ze24 rfl ?_
 clear H; intro b1 w1 hb1 H _
 refine asg (v := .bool _) rfl rfl ?_
 refine nl ?_
 refine then_n ?_
 refine sq ?_
 refine rg ?_
 refine mv (v := .slice _ _ _) rfl rfl ?_
 refine cvBS rfl (by exact hR.keep H.fr) Tryz.underlying30 Tryz.underlying5 Tryz.underlying9 rfl ?_
 refine cl ca30 (c_memoryOf _ ds (by omega)) rfl ?_
 rintro _ w2 ⟨bm, bd, cm, rfl, hcm, K⟩
 replace H := H.join K (by simp); simp only [List.cons_append, List.nil_append] at H; clear K
 refine mv (v := .int .i64 _) rfl rfl ?_
 refine cl ca31 (c_implRead _ bm bd ds.length cm _ _ _ ds (H.look (b := bm)) (RB.pre H) (H.ne_of rfl (y := ⟨bd, _, true⟩) (by repeat (first | exact .head _ | apply List.Mem.tail))) (by omega) hcm b f (by omega) (by omega) hcan1 hcan2 hfit1 hfit2) rfl ?_
 rintro _ w3 ⟨F, ⟨x9, hm9⟩, A9, rfl, hr1, hr2⟩
 replace H := H.put (b := bm) F hm9
 refine mv (v := .tuple _) rfl rfl ?_
 refine xt rfl rfl rfl ?_
 refine xt rfl rfl rfl ?_
 refine asg (v := .pointer _) rfl rfl ?_
 refine asg (v := .bool _) rfl rfl ?_
 refine nl ?_
 refine then_n ?_
 refine sq ?_
 refine sq ?_
 refine rg ?_
 refine mv (v := .bool _) rfl rfl ?_
 refine unot rfl rfl ?_
 refine nl ?_
 refine then_n ?_
 refine cn rfl (fun hc1 => ?_) (fun hc1 => ?_)
 ·have hgg : ((hdrGood ds 512 && decide (fld ds 600 4 = crc32 (pcs ds 1024 16384))) || (hdrGood ds (512 * b) && decide (fld ds (512 * b + 24) 8 = (b : Int)) && decide (fld ds (512 * b + 88) 4 = crc32 (pcs ds (512 * f) 16384)))) = false := by have h8 : (!((hdrGood ds 512 && decide (fld ds 600 4 = crc32 (pcs ds 1024 16384))) || (hdrGood ds (512 * b) && decide (fld ds (512 * b + 24) 8 = (b : Int)) && decide (fld ds (512 * b + 88) 4 = crc32 (pcs ds (512 * f) 16384))))) = true := hc1; cases hq : ((hdrGood ds 512 && decide (fld ds 600 4 = crc32 (pcs ds 1024 16384))) || (hdrGood ds (512 * b) && decide (fld ds (512 * b + 24) 8 = (b : Int)) && decide (fld ds (512 * b + 88) 4 = crc32 (pcs ds (512 * f) 16384)))) with | true => rw [hq] at h8; exact Bool.noConfusion h8 | false => rfl
  refine sq ?_
  refine rg ?_
  refine la H rfl ag24_5 rfl rfl rfl ?_
  refine sa H rfl rfl ag24_5 rfl rfl (by decide) (by omega) rfl ?_
  clear H; intro w4 H _
  refine asg (v := .bool _) rfl rfl ?_
  refine nl ?_
  refine then_n ?_
  refine rt ?_
  refine then_r ?_
  refine finR_r ?_
  exact ⟨[_, _], ⟨finC rfl (H.look (b := b1)) ag24_5, rfl, trivial⟩, H.fr, _, by rw [hgg]; rfl, fun h => by rw [h] at hgg; exact Bool.noConfusion hgg, fun h1 h2 => by rw [h1, h2] at hgg; exact Bool.noConfusion hgg, fun _ _ => rfl⟩
 ·have hgg : ((hdrGood ds 512 && decide (fld ds 600 4 = crc32 (pcs ds 1024 16384))) || (hdrGood ds (512 * b) && decide (fld ds (512 * b + 24) 8 = (b : Int)) && decide (fld ds (512 * b + 88) 4 = crc32 (pcs ds (512 * f) 16384)))) = true := by have h8 : (!((hdrGood ds 512 && decide (fld ds 600 4 = crc32 (pcs ds 1024 16384))) || (hdrGood ds (512 * b) && decide (fld ds (512 * b + 24) 8 = (b : Int)) && decide (fld ds (512 * b + 88) 4 = crc32 (pcs ds (512 * f) 16384))))) = false := hc1; cases hq : ((hdrGood ds 512 && decide (fld ds 600 4 = crc32 (pcs ds 1024 16384))) || (hdrGood ds (512 * b) && decide (fld ds (512 * b + 24) 8 = (b : Int)) && decide (fld ds (512 * b + 88) 4 = crc32 (pcs ds (512 * f) 16384)))) with | false => rw [hq] at h8; exact Bool.noConfusion h8 | true => rfl
  have hX : ∃ p D cap l qs g pr rb crc my oth fi lx f2, A9 = some ⟨p, 0, none⟩ ∧ l.map Prod.snd = qs.map pc ∧ l.length ≤ 128 ∧ w3.heap[p]? = some (.cells (tbC D l.length cap 512 512 g pr rb 128 128 f2 crc my oth fi lx true).toArray 106 (0, 0)) ∧ PR 126 w3 D l ∧ ((hdrGood ds 512 && decide (fld ds 600 4 = crc32 (pcs ds 1024 16384))) = true → g = gT (pcs ds 568 16) ∧ pr = protB (pcs ds 0 512) (fld ds 544 8 % 4294967296) ∧ rb = false ∧ qs = usedP (pcs ds 1024 16384) 128) ∧ ((hdrGood ds 512 && decide (fld ds 600 4 = crc32 (pcs ds 1024 16384))) = false → g = gT (pcs ds (512 * b + 56) 16) ∧ pr = protB (pcs ds 0 512) ((fld ds (512 * b + 24) 8) % 4294967296) ∧ rb = true ∧ qs = usedP (pcs ds (512 * f) 16384) 128) := by
   cases hq1 : (hdrGood ds 512 && decide (fld ds 600 4 = crc32 (pcs ds 1024 16384))) with
   | true =>
    obtain ⟨p, hp, D, cap, l, k1, k2, O⟩ := hr1 hq1
    exact ⟨p, D, cap, l, _, _, _, _, _, _, _, _, _, _, hp, k1.trans (usedC_P _ _), k2, O.sh.look (b := p), O.pr (fun x hx => .tail _ hx), fun _ => ⟨rfl, rfl, rfl, rfl⟩, fun h => by exact Bool.noConfusion h⟩
   | false =>
    rw [hq1, Bool.false_or] at hgg
    obtain ⟨p, hp, D, cap, l, k1, k2, O⟩ := hr2 hq1 hgg
    exact ⟨p, D, cap, l, _, _, _, _, _, _, _, _, _, _, hp, k1.trans (usedC_P _ _), k2, O.sh.look (b := p), O.pr (fun x hx => .tail _ hx), fun h => by exact Bool.noConfusion h, fun _ => ⟨rfl, rfl, rfl, rfl⟩⟩
  obtain ⟨p, D, cap, l, qs, g, pr, rb, crc, my, oth, fi, lx, f2, rfl, k1, k2, hp, hpr, q1, q2⟩ := hX
  have hql : qs.length = l.length := by have := congrArg List.length k1; simpa using this.symm
  refine sk ?_
  refine then_n ?_
  refine sq ?_
  refine rg ?_
  refine mv (v := .pointer _) rfl rfl ?_
  refine cl ca38 (c_told _ p D cap l qs g pr rb _ _ _ _ _ _ _ _ _ hp hpr k1 (by omega)) rfl ?_
  rintro _ w5 ⟨D2, cap2, rfl, O⟩
  replace O := O.joinN H (by simp)
  simp only [List.append_nil] at O
  replace H := O.sh
  refine sa (cs' := gtCells D2 l.length cap2 512 g pr rb) H rfl rfl ag24_5 rfl rfl (by show 0 + 5 ≤ 5; decide) (by omega) rfl ?_
  intro w96 H96 F96; replace O := O.put F96 H96.look; clear H H96 F96; have H := O.sh
  refine asg (v := .bool _) rfl rfl ?_
  refine nl ?_
  refine then_n ?_
  refine rt ?_
  refine finR_r ?_
  refine ⟨[_, _], ⟨finC rfl (H.look (b := b1)) ag24_5, rfl, trivial⟩, H.fr, _, by rw [hgg]; rfl, fun h => ?_, fun h1 h2 => ?_, fun h1 h2 => by rw [h1, h2] at hgg; exact Bool.noConfusion hgg⟩
  ·obtain ⟨rfl, rfl, rfl, rfl⟩ := q1 h
   rw [hql]
   exact ⟨D2, cap2, rfl, O.sub (List.nil_sublist _)⟩
  ·obtain ⟨rfl, rfl, rfl, rfl⟩ := q2 h1
   rw [hql]
   exact ⟨D2, cap2, rfl, O.sub (List.nil_sublist _)⟩
end Go.Proofs.YthcaejaaalkglaaGreatDoor.X
/- Walks of functions, printed by a program of this claim. -/
namespace Go.Proofs.YthcaejaaalkglaaGreatDoor.X
set_option linter.unusedVariables false
set_option linter.unusedSimpArgs false
open Go Go.RowKit
namespace PF
theorem ca23 : callable Tryz.prog 23 = true := by kernel_rfl
theorem ca36 : callable Tryz.prog 36 = true := by kernel_rfl
theorem fo54_3 : fieldOff Tryz.prog 54 3 = some 3 := by kernel_rfl
end PF
open PF
set_option maxRecDepth 100000 in
set_option maxHeartbeats 1000000 in
theorem c_samePart (w : World) (p q : GP) : Calls Tryz.prog 36 #[.agg p.cells.toArray, .agg q.cells.toArray] w (Ret fun v w' => v = .bool (sameP p q) ∧ Fr [] w w') := by
 refine enter (fun ρ => ρ 4) Tryz.func36 rfl rfl rfl (res1 rfl) ?_
 have H := SH.nil w
 refine sq ?_
 refine rg ?_
 refine bx (v := .agg _) H rfl rfl rfl ?_
 clear H; intro b1 w1 hb1 H _
 refine bx (v := .agg _) H rfl rfl rfl ?_
 clear H; intro b2 w2 hb2 H _
 refine asg (v := .bool _) rfl rfl ?_
 refine nl ?_
 refine then_n ?_
 refine sq ?_
 refine rg ?_
 refine fa rfl fo54_0 rfl ?_
 refine ld H rfl sc3 rfl rfl ?_
 refine fa rfl fo54_0 rfl ?_
 refine ld H rfl sc3 rfl rfl ?_
 refine eql rfl rfl rfl ?_
 refine mv (v := .bool _) rfl rfl ?_
 refine spd (t := 10) rfl (fun hg1 => ?_) (fun hg1 => ?_)
 ·refine gy rfl ?_
  refine fa rfl fo54_1 rfl ?_
  refine gy rfl ?_
  refine ld H rfl sc28 rfl rfl ?_
  refine gy rfl ?_
  refine fa rfl fo54_1 rfl ?_
  refine gy rfl ?_
  refine ld H rfl sc28 rfl rfl ?_
  refine gy rfl ?_
  refine eql rfl rfl rfl ?_
  refine pkT (v := .bool _) rfl rfl rfl ?_
  refine mv (v := .bool _) rfl rfl ?_
  refine spd (t := 17) rfl (fun hg2 => ?_) (fun hg2 => ?_)
  ·refine gy rfl ?_
   refine fa rfl fo54_2 rfl ?_
   refine gy rfl ?_
   refine ld H rfl sc28 rfl rfl ?_
   refine gy rfl ?_
   refine fa rfl fo54_2 rfl ?_
   refine gy rfl ?_
   refine ld H rfl sc28 rfl rfl ?_
   refine gy rfl ?_
   refine eql rfl rfl rfl ?_
   refine pkT (v := .bool _) rfl rfl rfl ?_
   refine mv (v := .bool _) rfl rfl ?_
   refine spd (t := 24) rfl (fun hg3 => ?_) (fun hg3 => ?_)
   ·refine gy rfl ?_
    refine fa rfl fo54_3 rfl ?_
    refine gy rfl ?_
    refine ld H rfl sc28 rfl rfl ?_
    refine gy rfl ?_
    refine fa rfl fo54_3 rfl ?_
    refine gy rfl ?_
    refine ld H rfl sc28 rfl rfl ?_
    refine gy rfl ?_
    refine eql rfl rfl rfl ?_
    refine pkT (v := .bool _) rfl rfl rfl ?_
    refine mv (v := .bool _) rfl rfl ?_
    refine spd (t := 31) rfl (fun hg4 => ?_) (fun hg4 => ?_)
    ·refine gy rfl ?_
     refine fa rfl fo54_4 rfl ?_
     refine gy rfl ?_
     refine ld H rfl sc9 rfl rfl ?_
     refine gy rfl ?_
     refine fa rfl fo54_4 rfl ?_
     refine gy rfl ?_
     refine ld H rfl sc9 rfl rfl ?_
     refine gy rfl ?_
     refine cl ca23 (c_sameGuid _ _ _) rfl ?_
     rintro _ w3 ⟨rfl, F⟩
     replace H := H.keep F; clear F
     refine pkT (v := .bool _) rfl rfl rfl ?_
     refine mv (v := .bool _) rfl rfl ?_
     refine sp (t := 38) rfl (fun hg5 => ?_) (fun hg5 => ?_)
     ·refine gy rfl ?_
      refine fa rfl fo54_6 rfl ?_
      refine gy rfl ?_
      refine ld H rfl sc9 rfl rfl ?_
      refine gy rfl ?_
      refine fa rfl fo54_6 rfl ?_
      refine gy rfl ?_
      refine ld H rfl sc9 rfl rfl ?_
      refine gy rfl ?_
      refine cl ca23 (c_sameGuid _ _ _) rfl ?_
      rintro _ w4 ⟨rfl, F⟩
      replace H := H.keep F; clear F
      refine pkT (v := .bool _) rfl rfl rfl ?_
      refine mv (v := .bool _) rfl rfl ?_
      refine sp (t := 45) rfl (fun hg6 => ?_) (fun hg6 => ?_)
      ·refine gy rfl ?_
       refine fa rfl fo54_5 rfl ?_
       refine gy rfl ?_
       refine ld H rfl sc9 rfl rfl ?_
       refine gy rfl ?_
       refine fa rfl fo54_5 rfl ?_
       refine gy rfl ?_
       refine ld H rfl sc9 rfl rfl ?_
       refine gy rfl ?_
       refine eqlT rfl rfl rfl ?_
       refine pkT (v := .bool _) rfl rfl rfl ?_
       refine mv (v := .bool _) rfl rfl ?_
       refine spd (t := 52) rfl (fun hg7 => ?_) (fun hg7 => ?_)
       ·refine gy rfl ?_
        refine fa rfl fo54_7 rfl ?_
        refine gy rfl ?_
        refine ld H rfl sc28 rfl rfl ?_
        refine gy rfl ?_
        refine fa rfl fo54_7 rfl ?_
        refine gy rfl ?_
        refine ld H rfl sc28 rfl rfl ?_
        refine gy rfl ?_
        refine eql rfl rfl rfl ?_
        refine pkT (v := .bool _) rfl rfl rfl ?_
        refine asg (v := .bool _) rfl rfl ?_
        refine nl ?_
        refine then_n ?_
        refine rt ?_
        refine fin_r ?_
        refine ⟨congrArg Value.bool ?_, H.fr⟩
        (simp [sameP, hg1, hg2, hg3, hg4, hg5, hg6, hg7]; done)
       ·refine gn rfl rfl ?_
        refine gn rfl rfl ?_
        refine gn rfl rfl ?_
        refine gn rfl rfl ?_
        refine gn rfl rfl ?_
        refine pkF (v := .bool _) rfl rfl rfl ?_
        refine asg (v := .bool _) rfl rfl ?_
        refine nl ?_
        refine then_n ?_
        refine rt ?_
        refine fin_r ?_
        refine ⟨congrArg Value.bool ?_, H.fr⟩
        (simp [sameP, hg1, hg2, hg3, hg4, hg5, hg6, hg7]; done)
      ·refine gn rfl rfl ?_
       refine gn rfl rfl ?_
       refine gn rfl rfl ?_
       refine gn rfl rfl ?_
       refine gn rfl rfl ?_
       refine pkF (v := .bool _) rfl rfl rfl ?_
       refine mv (v := .bool _) rfl rfl ?_
       refine gn rfl rfl ?_
       refine gn rfl rfl ?_
       refine gn rfl rfl ?_
       refine gn rfl rfl ?_
       refine gn rfl rfl ?_
       refine pkF (v := .bool _) rfl rfl rfl ?_
       refine asg (v := .bool _) rfl rfl ?_
       refine nl ?_
       refine then_n ?_
       refine rt ?_
       refine fin_r ?_
       refine ⟨congrArg Value.bool ?_, H.fr⟩
       (simp [sameP, hg1, hg2, hg3, hg4, hg5, hg6]; done)
     ·refine gn rfl rfl ?_
      refine gn rfl rfl ?_
      refine gn rfl rfl ?_
      refine gn rfl rfl ?_
      refine gn rfl rfl ?_
      refine pkF (v := .bool _) rfl rfl rfl ?_
      refine mv (v := .bool _) rfl rfl ?_
      refine gn rfl rfl ?_
      refine gn rfl rfl ?_
      refine gn rfl rfl ?_
      refine gn rfl rfl ?_
      refine gn rfl rfl ?_
      refine pkF (v := .bool _) rfl rfl rfl ?_
      refine mv (v := .bool _) rfl rfl ?_
      refine gn rfl rfl ?_
      refine gn rfl rfl ?_
      refine gn rfl rfl ?_
      refine gn rfl rfl ?_
      refine gn rfl rfl ?_
      refine pkF (v := .bool _) rfl rfl rfl ?_
      refine asg (v := .bool _) rfl rfl ?_
      refine nl ?_
      refine then_n ?_
      refine rt ?_
      refine fin_r ?_
      refine ⟨congrArg Value.bool ?_, H.fr⟩
      (simp [sameP, hg1, hg2, hg3, hg4, hg5]; done)
    ·refine gn rfl rfl ?_
     refine gn rfl rfl ?_
     refine gn rfl rfl ?_
     refine gn rfl rfl ?_
     refine gn rfl rfl ?_
     refine pkF (v := .bool _) rfl rfl rfl ?_
     refine mv (v := .bool _) rfl rfl ?_
     refine gn rfl rfl ?_
     refine gn rfl rfl ?_
     refine gn rfl rfl ?_
     refine gn rfl rfl ?_
     refine gn rfl rfl ?_
     refine pkF (v := .bool _) rfl rfl rfl ?_
     refine mv (v := .bool _) rfl rfl ?_
     refine gn rfl rfl ?_
     refine gn rfl rfl ?_
     refine gn rfl rfl ?_
     refine gn rfl rfl ?_
     refine gn rfl rfl ?_
     refine pkF (v := .bool _) rfl rfl rfl ?_
     refine mv (v := .bool _) rfl rfl ?_
     refine gn rfl rfl ?_
     refine gn rfl rfl ?_
     refine gn rfl rfl ?_
     refine gn rfl rfl ?_
     refine gn rfl rfl ?_
     refine pkF (v := .bool _) rfl rfl rfl ?_
     refine asg (v := .bool _) rfl rfl ?_
     refine nl ?_
     refine then_n ?_
     refine rt ?_
     refine fin_r ?_
     refine ⟨congrArg Value.bool ?_, H.fr⟩
     (simp [sameP, hg1, hg2, hg3, hg4]; done)
   ·refine gn rfl rfl ?_
    refine gn rfl rfl ?_
    refine gn rfl rfl ?_
    refine gn rfl rfl ?_
    refine gn rfl rfl ?_
    refine pkF (v := .bool _) rfl rfl rfl ?_
    refine mv (v := .bool _) rfl rfl ?_
    refine gn rfl rfl ?_
    refine gn rfl rfl ?_
    refine gn rfl rfl ?_
    refine gn rfl rfl ?_
    refine gn rfl rfl ?_
    refine pkF (v := .bool _) rfl rfl rfl ?_
    refine mv (v := .bool _) rfl rfl ?_
    refine gn rfl rfl ?_
    refine gn rfl rfl ?_
    refine gn rfl rfl ?_
    refine gn rfl rfl ?_
    refine gn rfl rfl ?_
    refine pkF (v := .bool _) rfl rfl rfl ?_
    refine mv (v := .bool _) rfl rfl ?_
    refine gn rfl rfl ?_
    refine gn rfl rfl ?_
    refine gn rfl rfl ?_
    refine gn rfl rfl ?_
    refine gn rfl rfl ?_
    refine pkF (v := .bool _) rfl rfl rfl ?_
    refine mv (v := .bool _) rfl rfl ?_
    refine gn rfl rfl ?_
    refine gn rfl rfl ?_
    refine gn rfl rfl ?_
    refine gn rfl rfl ?_
    refine gn rfl rfl ?_
    refine pkF (v := .bool _) rfl rfl rfl ?_
    refine asg (v := .bool _) rfl rfl ?_
    refine nl ?_
    refine then_n ?_
    refine rt ?_
    refine fin_r ?_
    refine ⟨congrArg Value.bool ?_, H.fr⟩
    (simp [sameP, hg1, hg2, hg3]; done)
  ·refine gn rfl rfl ?_
   refine gn rfl rfl ?_
   refine gn rfl rfl ?_
   refine gn rfl rfl ?_
   refine gn rfl rfl ?_
   refine pkF (v := .bool _) rfl rfl rfl ?_
   refine mv (v := .bool _) rfl rfl ?_
   refine gn rfl rfl ?_
   refine gn rfl rfl ?_
   refine gn rfl rfl ?_
   refine gn rfl rfl ?_
   refine gn rfl rfl ?_
   refine pkF (v := .bool _) rfl rfl rfl ?_
   refine mv (v := .bool _) rfl rfl ?_
   refine gn rfl rfl ?_
   refine gn rfl rfl ?_
   refine gn rfl rfl ?_
   refine gn rfl rfl ?_
   refine gn rfl rfl ?_
   refine pkF (v := .bool _) rfl rfl rfl ?_
   refine mv (v := .bool _) rfl rfl ?_
   refine gn rfl rfl ?_
   refine gn rfl rfl ?_
   refine gn rfl rfl ?_
   refine gn rfl rfl ?_
   refine gn rfl rfl ?_
   refine pkF (v := .bool _) rfl rfl rfl ?_
   refine mv (v := .bool _) rfl rfl ?_
   refine gn rfl rfl ?_
   refine gn rfl rfl ?_
   refine gn rfl rfl ?_
   refine gn rfl rfl ?_
   refine gn rfl rfl ?_
   refine pkF (v := .bool _) rfl rfl rfl ?_
   refine mv (v := .bool _) rfl rfl ?_
   refine gn rfl rfl ?_
   refine gn rfl rfl ?_
   refine gn rfl rfl ?_
   refine gn rfl rfl ?_
   refine gn rfl rfl ?_
   refine pkF (v := .bool _) rfl rfl rfl ?_
   refine asg (v := .bool _) rfl rfl ?_
   refine nl ?_
   refine then_n ?_
   refine rt ?_
   refine fin_r ?_
   refine ⟨congrArg Value.bool ?_, H.fr⟩
   (simp [sameP, hg1, hg2]; done)
 ·refine gn rfl rfl ?_
  refine gn rfl rfl ?_
  refine gn rfl rfl ?_
  refine gn rfl rfl ?_
  refine gn rfl rfl ?_
  refine pkF (v := .bool _) rfl rfl rfl ?_
  refine mv (v := .bool _) rfl rfl ?_
  refine gn rfl rfl ?_
  refine gn rfl rfl ?_
  refine gn rfl rfl ?_
  refine gn rfl rfl ?_
  refine gn rfl rfl ?_
  refine pkF (v := .bool _) rfl rfl rfl ?_
  refine mv (v := .bool _) rfl rfl ?_
  refine gn rfl rfl ?_
  refine gn rfl rfl ?_
  refine gn rfl rfl ?_
  refine gn rfl rfl ?_
  refine gn rfl rfl ?_
  refine pkF (v := .bool _) rfl rfl rfl ?_
  refine mv (v := .bool _) rfl rfl ?_
  refine gn rfl rfl ?_
  refine gn rfl rfl ?_
  refine gn rfl rfl ?_
  refine gn rfl rfl ?_
  refine gn rfl rfl ?_
  refine pkF (v := .bool _) rfl rfl rfl ?_
  refine mv (v := .bool _) rfl rfl ?_
  refine gn rfl rfl ?_
  refine gn rfl rfl ?_
  refine gn rfl rfl ?_
  refine gn rfl rfl ?_
  refine gn rfl rfl ?_
  refine pkF (v := .bool _) rfl rfl rfl ?_
  refine mv (v := .bool _) rfl rfl ?_
  refine gn rfl rfl ?_
  refine gn rfl rfl ?_
  refine gn rfl rfl ?_
  refine gn rfl rfl ?_
  refine gn rfl rfl ?_
  refine pkF (v := .bool _) rfl rfl rfl ?_
  refine mv (v := .bool _) rfl rfl ?_
  refine gn rfl rfl ?_
  refine gn rfl rfl ?_
  refine gn rfl rfl ?_
  refine gn rfl rfl ?_
  refine gn rfl rfl ?_
  refine pkF (v := .bool _) rfl rfl rfl ?_
  refine asg (v := .bool _) rfl rfl ?_
  refine nl ?_
  refine then_n ?_
  refine rt ?_
  refine fin_r ?_
  refine ⟨congrArg Value.bool ?_, H.fr⟩
  (simp [sameP, hg1]; done)
set_option maxRecDepth 100000 in
set_option maxHeartbeats 1000000 in
theorem c_sameGpt (w : World) (D1 D2 : Option Addr) (m1 c1 m2 c2 : Nat) (g1 g2 : List UInt8) (pr1 rc1 pr2 rc2 : Bool) (ps qs : List GP) (h1 : RG w D1 m1 c1 ps) (h2 : RG w D2 m2 c2 qs) (hm : m1 ≤ 1000) : Calls Tryz.prog 15 #[.agg (gtCells D1 m1 c1 512 g1 pr1 rc1).toArray, .agg (gtCells D2 m2 c2 512 g2 pr2 rc2).toArray] w (Ret fun v w' => v = .bool (sameT g1 g2 ps qs) ∧ Fr [] w w') := by
 refine enter (fun ρ => ρ 4) Tryz.func15 rfl rfl rfl (res1 rfl) ?_
 have H := SH.nil w
 have hl1 := h1.len
 have hl2 := h2.len
 refine sq ?_
 refine rg ?_
 refine bx (v := .agg _) H rfl rfl rfl ?_
 clear H; intro b1 w1 hb1 H _
 refine bx (v := .agg _) H rfl rfl rfl ?_
 clear H; intro b2 w2 hb2 H _
 refine asg (v := .bool _) rfl rfl ?_
 refine nl ?_
 refine then_n ?_
 refine sq ?_
 refine sq ?_
 refine rg ?_
 refine fa rfl fo24_2 rfl ?_
 refine ld H rfl sc9 rfl rfl ?_
 refine fa rfl fo24_2 rfl ?_
 refine ld H rfl sc9 rfl rfl ?_
 refine cl ca23 (c_sameGuid _ _ _) rfl ?_
 rintro _ w3 ⟨rfl, F⟩
 replace H := H.keep F; clear F
 refine unot rfl rfl ?_
 refine mv (v := .bool _) rfl rfl ?_
 refine sp (t := 13) rfl (fun hg1 => ?_) (fun hg1 => ?_)
 ·refine gn rfl rfl ?_
  refine gn rfl rfl ?_
  refine gn rfl rfl ?_
  refine gn rfl rfl ?_
  refine gn rfl rfl ?_
  refine gn rfl rfl ?_
  refine gn rfl rfl ?_
  refine pkT (v := .bool _) rfl rfl rfl ?_
  refine nl ?_
  refine then_n ?_
  refine cbT rfl rfl ?_
  refine sq ?_
  refine rg ?_
  refine asg (v := .bool _) rfl rfl ?_
  refine nl ?_
  refine then_n ?_
  refine rt ?_
  refine then_r ?_
  refine fin_r ?_
  have hz : sameG g1 g2 = false := by simpa using hg1
  exact ⟨congrArg Value.bool (by unfold sameT; rw [hz]; rfl), H.fr⟩
 ·refine gy rfl ?_
  refine fa rfl fo24_0 rfl ?_
  refine gy rfl ?_
  refine ld H rfl sc22 rfl rfl ?_
  refine gy rfl ?_
  refine lnS rfl Tryz.underlying22 rfl ?_
  refine gy rfl ?_
  refine fa rfl fo24_0 rfl ?_
  refine gy rfl ?_
  refine ld H rfl sc22 rfl rfl ?_
  refine gy rfl ?_
  refine lnS rfl Tryz.underlying22 rfl ?_
  refine gy rfl ?_
  refine neq rfl rfl rfl ?_
  refine pkF (v := .bool _) rfl rfl rfl ?_
  refine nl ?_
  refine then_n ?_
  refine cd rfl (fun hc1 => ?_) (fun hc1 => ?_)
  ·refine sq ?_
   refine rg ?_
   refine asg (v := .bool _) rfl rfl ?_
   refine nl ?_
   refine then_n ?_
   refine rt ?_
   refine then_r ?_
   refine fin_r ?_
   exact ⟨congrArg Value.bool (by unfold sameT; rw [decide_eq_false (p := ps.length = qs.length) (by omega)]; simp), H.fr⟩
  ·refine sk ?_
   refine then_n ?_
   refine sq ?_
   refine sq ?_
   refine rg ?_
   refine fa rfl fo24_0 rfl ?_
   refine ld H rfl sc22 rfl rfl ?_
   refine lnS rfl Tryz.underlying22 rfl ?_
   refine mv (v := .int .i64 _) rfl rfl ?_
   refine nl ?_
   refine then_n ?_
   refine bk ?_
   refine lpM (α := Nat) [4, 5, 6, 25, 26, 27, 28, 29, 30, 31, 32, 33, 34, 35, 36, 37, 38] (fun i => [(25, .int .i64 (i : Int))]) (fun i w' => i ≤ m1 ∧ (∀ j p q, j < i → ps[j]? = some p → qs[j]? = some q → sameP p q = true) ∧ SH w [] w' [⟨b2, .cells (gtCells D2 m2 c2 512 g2 pr2 rc2).toArray 24 (0, 0), true⟩, ⟨b1, .cells (gtCells D1 m1 c1 512 g1 pr1 rc1).toArray 24 (0, 0), true⟩]) (fun i => m1 - i) 0 ?_ (fCX (fN _)) ?_
   ·exact ⟨by omega, fun j p q hj => by omega, H⟩
   ·rintro i ρx w4 ⟨hi, hs, H⟩
    refine sq ?_
    refine rg ?_
    refine lss rfl rfl rfl ?_
    refine nl ?_
    refine then_n ?_
    refine sq ?_
    refine cd rfl (fun hc2 => ?_) (fun hc2 => ?_)
    ·obtain ⟨p, hpi⟩ : ∃ p, ps[i]? = some p := ⟨_, List.getElem?_eq_getElem (by omega)⟩
     obtain ⟨q, hqi⟩ : ∃ q, qs[i]? = some q := ⟨_, List.getElem?_eq_getElem (by omega)⟩
     obtain ⟨ad, rfl⟩ := h1.some_of (by omega)
     obtain ⟨ad2, rfl⟩ := h2.some_of (by omega)
     refine sk ?_
     refine then_n ?_
     refine sq ?_
     refine bk ?_
     refine sq ?_
     refine rg ?_
     refine mv (v := .int .i64 _) rfl rfl ?_
     refine iBN (ad.add (i * 8)) rfl rfl Tryz.underlying22 sz54_8 (by omega) (by simp) rfl ?_
     refine lw (vs := p.cells) rfl ag54_8 rfl (fun j v h => H.fr.cell (h1.elem hpi j v h) (by simp)) rfl ?_
     refine al H ze54 rfl ?_
     clear H; intro b3 w5 hb3 H _
     refine asg (v := .int .i64 _) rfl rfl ?_
     refine sa (cs' := p.cells) H rfl rfl ag54_8 rfl rfl (by decide) (by omega) rfl ?_
     clear H; intro w35 H _
     refine nl ?_
     refine then_n ?_
     refine sq ?_
     refine dr (by kernel_rfl) ?_
     have H := H.drew
     refine hold (fun _ => True) [] ?_
     refine tk (i := 1) rfl (by kernel_rfl) rfl trivial (fun _ _ => r_fa rfl fo24_0) ?_
     refine tk (i := 3) rfl (by kernel_rfl) rfl trivial (fun _ _ => r_mv (v := .int .i64 _) rfl) ?_
     refine unfree ?_
     refine holdH H [] ?_
     refine tk (i := 0) rfl (by kernel_rfl) rfl H (fun w' H => r_la (vs := p.cells) H rfl ag54_8 rfl rfl) ?_
     refine tk (i := 2) rfl (by kernel_rfl) rfl H (fun w' H => r_ld H rfl sc22 rfl) ?_
     refine tk (i := 4) rfl (by kernel_rfl) rfl H (fun w' H => r_iBN (ad2.add (i * 8)) rfl rfl Tryz.underlying22 sz54_8 (by omega) (by simp)) ?_
     refine tk (i := 5) rfl (by kernel_rfl) rfl H (fun w' H => r_lw (vs := q.cells) rfl ag54_8 rfl (fun j v h => H.fr.cell (h2.elem hqi j v h) (by simp))) ?_
     refine fk (i := 6) (by kernel_rfl) rfl rfl rfl ?_
     refine cl ca36 (c_samePart _ p q) rfl ?_
     rintro _ w6 ⟨rfl, F⟩
     replace H := H.keep F; clear F
     refine nl ?_
     refine then_n ?_
     refine ⟨H, ?_⟩
     refine tk (i := 7) rfl (by kernel_rfl) rfl H (fun w' H => r_unot rfl) ?_
     refine da (by kernel_rfl) ?_
     refine then_n ?_
     refine cn rfl (fun hc3 => ?_) (fun hc3 => ?_)
     ·refine sq ?_
      refine rg ?_
      refine asg (v := .bool _) rfl rfl ?_
      refine nl ?_
      refine then_n ?_
      refine rt ?_
      refine in_r ?_
      refine then_r ?_
      refine loop_r ?_
      refine in_r ?_
      refine then_r ?_
      refine fin_r ?_
      exact ⟨congrArg Value.bool (sameT_f hpi hqi (by simpa using hc3)).symm, H.fr⟩
     ·refine sk ?_
      refine in_n ?_
      refine then_n ?_
      refine rg ?_
      refine add rfl rfl (by first | exact w_i64 (by omega) | exact w_i64 (rng_i64 _) | rfl) rfl ?_
      refine mv (v := .int .i64 _) rfl rfl ?_
      refine nl ?_
      refine loop_n ?_
      exact ⟨i + 1, (by (try dsimp only); omega), ⟨by omega, sameS_next hs hpi hqi (by simpa using hc3), H.subX⟩, (fCX (fN _)), agX⟩
    ·refine ex ?_
     refine then_e ?_
     refine loop_e ?_
     refine in_hit rfl ?_
     refine then_n ?_
     refine sq ?_
     refine rg ?_
     refine asg (v := .bool _) rfl rfl ?_
     refine nl ?_
     refine then_n ?_
     refine rt ?_
     refine fin_r ?_
     obtain rfl : i = m1 := by omega
     exact ⟨congrArg Value.bool (sameT_t (by simpa using hg1) (by omega) (fun j p q hj => hs j p q (by omega))).symm, H.fr⟩
end Go.Proofs.YthcaejaaalkglaaGreatDoor.X
/- Walks of functions, printed by a program of this claim. -/
namespace Go.Proofs.YthcaejaaalkglaaGreatDoor.X
set_option linter.unusedVariables false
set_option linter.unusedSimpArgs false
open Go Go.RowKit
open PF
set_option maxRecDepth 100000 in
set_option maxHeartbeats 1000000 in
theorem c_used (w : World) (D : Option Addr) (m c : Nat) (g : List UInt8) (pr rc : Bool) (ps : List GP) (hq : RG w D m c ps) (hm : m ≤ 200) : Calls Tryz.prog 18 #[.agg (gtCells D m c 512 g pr rc).toArray] w (Ret fun v w' => ∃ D2 cap2, v = .agg (gtCells D2 (keepP ps).length cap2 512 g pr rc).toArray ∧ OR 54 8 w [] w' [] D2 (keepP ps).length cap2 ((keepP ps).flatMap GP.cells)) := by
 refine enterR [.cell 2 24] Tryz.func18 rfl rfl rfl rfl ?_
 have H := SH.nil w
 have hql := hq.len
 have hkl := keepP_le ps
 refine sq ?_
 refine rg ?_
 refine bx (v := .agg _) H rfl rfl rfl ?_
 clear H; intro b1 w1 hb1 H _
 refine al H ze24 rfl ?_
 clear H; intro b2 w2 hb2 H _
 refine nl ?_
 refine then_n ?_
 refine sq ?_
 refine rg ?_
 refine asg (v := .slice _ _ _) rfl rfl ?_
 refine nl ?_
 refine then_n ?_
 refine sq ?_
 refine sq ?_
 refine rg ?_
 refine fa rfl fo24_0 rfl ?_
 refine ld H rfl sc22 rfl rfl ?_
 refine lnS rfl Tryz.underlying22 rfl ?_
 refine mv (v := .int .i64 _) rfl rfl ?_
 refine nl ?_
 refine then_n ?_
 refine bk ?_
 refine lpM (α := Nat × Option Addr × Nat) [3, 5, 9, 10, 11, 12, 13, 14, 15, 16, 17, 18, 19, 20, 21] (fun (i, D2, cap2) => [(3, .slice D2 (keepP (ps.take i)).length cap2), (9, .int .i64 (i : Int))]) (fun (i, D2, cap2) w' => i ≤ m ∧ OR 54 8 w [] w' [⟨b2, .cells (gtCells none 0 0 0 [] false false).toArray 24 (0, 0), true⟩, ⟨b1, .cells (gtCells D m c 512 g pr rc).toArray 24 (0, 0), true⟩] D2 (keepP (ps.take i)).length cap2 ((keepP (ps.take i)).flatMap GP.cells)) (fun (i, D2, cap2) => m - i) (0, none, 0) ?_ (fCX (fCX (fN _))) ?_
 ·exact ⟨by omega, OR.nil H⟩
 ·rintro ⟨i, D2, cap2⟩ ρx w3 ⟨hi, O⟩
  have H := O.sh
  have hkt : (keepP (ps.take i)).length ≤ i := Nat.le_trans (keepP_le _) (by simp; omega)
  refine sq ?_
  refine rg ?_
  refine lss rfl rfl rfl ?_
  refine nl ?_
  refine then_n ?_
  refine sq ?_
  refine cd rfl (fun hc1 => ?_) (fun hc1 => ?_)
  ·obtain ⟨p, hpi⟩ : ∃ p, ps[i]? = some p := ⟨_, List.getElem?_eq_getElem (by omega)⟩
   obtain ⟨ad, rfl⟩ := hq.some_of (by omega)
   refine sk ?_
   refine then_n ?_
   refine sq ?_
   refine bk ?_
   refine sq ?_
   refine rg ?_
   refine iBN (ad.add (i * 8)) rfl rfl Tryz.underlying22 sz54_8 (by omega) (by simp) rfl ?_
   refine lw (vs := p.cells) rfl ag54_8 rfl (fun j v h => H.fr.cell (hq.elem hpi j v h) (by simp)) rfl ?_
   refine al H ze54 rfl ?_
   intro b3 w4 hb3 H1 F; replace O := O.new F hb3 H1.look; clear H H1 F; have H := O.sh
   refine sa (cs' := p.cells) H rfl rfl ag54_8 rfl rfl (by decide) (by omega) rfl ?_
   intro w35 H1 F; replace O := O.put F H1.look; clear H H1 F; have H := O.sh
   refine nl ?_
   refine then_n ?_
   refine sq ?_
   refine rg ?_
   refine fa rfl fo54_4 rfl ?_
   refine ld H rfl sc9 rfl rfl ?_
   refine cl ca23 (c_sameGuid _ p.ty zG) rfl ?_
   rintro _ w5 ⟨rfl, F⟩
   replace H := H.keep F; replace O := O.keep F; clear F
   refine unot rfl rfl ?_
   refine nl ?_
   refine then_n ?_
   refine cn rfl (fun hc2 => ?_) (fun hc2 => ?_)
   ·have hkp : sameG p.ty zG = false := by simpa using hc2
    refine rg ?_
    refine mv (v := .slice _ _ _) rfl rfl ?_
    refine la (vs := p.cells) H rfl ag54_8 rfl rfl rfl ?_
    refine bsl (sz := 8) (out := ?o1) H Tryz.underlying22 ze54 sz54_8 (by decide) ?f1 rfl ?_
    case f1 =>
     refine FS.agg (vs := _) rfl rfl (by first | decide | simp) ?_
     exact FS.nil
    intro b4 w6 hb4 H1 F; replace O := O.new F hb4 H1.look; clear H H1 F; have H := O.sh
    have hke := keepP_t hpi hkp
    refine apO (zs := [.int .i64 0, .int .u64 0, .int .u64 0, .int .u64 0, .string ⟨#[]⟩, .string ⟨#[]⟩, .string ⟨#[]⟩, .int .u64 0]) p.cells O rfl rfl Tryz.underlying22 ri54 (by first | rfl | simp) (cells_look H.look) (List.all_eq_true.1 p.cells_one) (by simp) (by omega) (by unfold maxLen; omega) rfl ?_
    clear O H; intro D9 cp9 w7 O
    replace O := O.drop; have H := O.sh
    have hkl9 : (keepP (ps.take (i + 1))).length = (keepP (ps.take i)).length + 1 := by rw [hke]; simp
    refine asg (v := .slice _ _ _) rfl rfl ?_
    refine nl ?_
    refine in_n ?_
    refine then_n ?_
    refine rg ?_
    refine add rfl rfl (by first | exact w_i64 (by omega) | exact w_i64 (rng_i64 _) | rfl) rfl ?_
    refine mv (v := .int .i64 _) rfl rfl ?_
    refine nl ?_
    refine loop_n ?_
    exact ⟨(i + 1, D9, cp9), (by (try dsimp only); omega), ⟨by omega, by rw [keepP_t hpi hkp, List.flatMap_append, List.length_append]; exact O.subX⟩, (fCX (fCX (fN _))), agX⟩
   ·have hkp : sameG p.ty zG = true := by simpa using hc2
    have hke := keepP_f hpi hkp
    have hkl9 : (keepP (ps.take (i + 1))).length = (keepP (ps.take i)).length := by rw [hke]
    refine sk ?_
    refine in_n ?_
    refine then_n ?_
    refine rg ?_
    refine add rfl rfl (by first | exact w_i64 (by omega) | exact w_i64 (rng_i64 _) | rfl) rfl ?_
    refine mv (v := .int .i64 _) rfl rfl ?_
    refine nl ?_
    refine loop_n ?_
    exact ⟨(i + 1, D2, cap2), (by (try dsimp only); omega), ⟨by omega, by rw [keepP_f hpi hkp]; exact O.subX⟩, (fCX (fCX (fN _))), agX⟩
  ·refine ex ?_
   refine then_e ?_
   refine loop_e ?_
   refine in_hit rfl ?_
   refine then_n ?_
   refine sq ?_
   refine rg ?_
   refine mv (v := .slice _ _ _) rfl rfl ?_
   refine fa rfl fo24_0 rfl ?_
   refine st (v := .slice _ _ _) H rfl rfl sc22 rfl (by show 0 + 0 < 5; decide) (by omega) ?_
   intro w95 H1 F; replace O := O.put F H1.look; clear H H1 F; have H := O.sh
   refine nl ?_
   refine then_n ?_
   refine sq ?_
   refine rg ?_
   refine la (vs := gtCells D2 (keepP (ps.take i)).length cap2 512 g pr rc) H rfl ag24_5 rfl rfl rfl ?_
   refine sa (cs' := gtCells D2 (keepP (ps.take i)).length cap2 512 g pr rc) H rfl rfl ag24_5 rfl rfl (by show 0 + 5 ≤ 5; decide) (by omega) rfl ?_
   intro w96 H96 F96; replace O := O.put F96 H96.look; clear H H96 F96; have H := O.sh
   refine nl ?_
   refine then_n ?_
   refine rt ?_
   refine finR_r ?_
   obtain rfl : i = m := by omega
   rw [List.take_of_length_le (by omega)] at O H
   exact ⟨[_], ⟨finC rfl (H.look (b := b2)) ag24_5, trivial⟩, _, _, rfl, O.sub (List.nil_sublist _)⟩
end Go.Proofs.YthcaejaaalkglaaGreatDoor.X
/- Walks of functions, printed by a program of this claim. -/
namespace Go.Proofs.YthcaejaaalkglaaGreatDoor.X
set_option linter.unusedVariables false
set_option linter.unusedSimpArgs false
open Go Go.RowKit
namespace PF
theorem pl24_0 : placeOf Tryz.prog 24 0 = some (0, 1) := by kernel_rfl
end PF
open PF
set_option maxRecDepth 100000 in
set_option maxHeartbeats 1000000 in
theorem c_small (w : World)  : Calls Tryz.prog 26 #[] w (Ret fun v w' => ∃ D cap, v = .agg (gtCells D 1 cap 512 gS true false).toArray ∧ OR 54 8 w [] w' [] D 1 cap pS.cells) := by
 refine enterR [.cell 0 24] Tryz.func26 rfl rfl rfl rfl ?_
 have H := SH.nil w
 refine sq ?_
 refine rg ?_
 refine al H ze24 rfl ?_
 clear H; intro b1 w1 hb1 H _
 refine nl ?_
 refine then_n ?_
 refine sq ?_
 refine rg ?_
 refine bu (out := ?o1) ze54 bo54 ?f1 rfl ?_
 case f1 =>
  refine FL.one (v := .int .i64 _) rfl pl54_0 rfl (by first | decide | simp) ?_
  refine FL.one (v := .int .u64 _) rfl pl54_1 rfl (by first | decide | simp) ?_
  refine FL.one (v := .int .u64 _) rfl pl54_2 rfl (by first | decide | simp) ?_
  refine FL.one (v := .int .u64 _) rfl pl54_3 rfl (by first | decide | simp) ?_
  refine FL.one (v := .string _) rfl pl54_4 rfl (by first | decide | simp) ?_
  refine FL.one (v := .string _) rfl pl54_5 rfl (by first | decide | simp) ?_
  refine FL.one (v := .string _) rfl pl54_6 rfl (by first | decide | simp) ?_
  exact FL.nil
 refine bsl (sz := 8) (out := ?o2) H Tryz.underlying22 ze54 sz54_8 (by decide) ?f2 rfl ?_
 case f2 =>
  refine FS.agg (vs := _) rfl rfl (by first | decide | simp) ?_
  exact FS.nil
 clear H; intro b2 w2 hb2 H F
 refine bu (out := ?o3) ze24 bo24 ?f3 rfl ?_
 case f3 =>
  refine FL.one (v := .int .i64 _) rfl pl24_1 rfl (by first | decide | simp) ?_
  refine FL.one (v := .string _) rfl pl24_2 rfl (by first | decide | simp) ?_
  refine FL.one (v := .bool _) rfl pl24_3 rfl (by first | decide | simp) ?_
  refine FL.one (v := .slice _ _ _) rfl pl24_0 rfl (by first | decide | simp) ?_
  exact FL.nil
 refine sa H rfl rfl ag24_5 rfl rfl (by decide) (by omega) rfl ?_
 clear H; intro w3 H _
 refine nl ?_
 refine then_n ?_
 refine rt ?_
 refine finR_r ?_
 have H2 : SH w [] w3 [⟨b2, .cells pS.cells.toArray 54 (0, 0), true⟩] := H.subX
 exact ⟨[_], ⟨finC rfl (H.look (b := b1)) ag24_5, trivial⟩, some ⟨b2, 0, none⟩, 1, rfl, OR.made (n := 1) (cap := 1) (cur := pS.cells) H2 (by decide) (by decide) rfl⟩
end Go.Proofs.YthcaejaaalkglaaGreatDoor.X
/- What is read of a disk that the statements have laid. -/
namespace Go.Proofs.YthcaejaaalkglaaGreatDoor.X
set_option linter.unusedVariables false
set_option linter.unusedSimpArgs false
open Go
theorem pcs_in {cur es : List UInt8} {o k : Nat} (hk : es.length = k) (h : o + k ≤ cur.length) : pcs (pAt cur o es) o k = es := by
  unfold pcs pAt
  have ht : (cur.take o).length = o := by simp; omega
  rw [List.append_assoc, List.drop_append, List.drop_of_length_le (by omega), List.nil_append, ht, Nat.sub_self, List.drop_zero, List.take_append, hk, Nat.sub_self, List.take_zero, List.append_nil, List.take_of_length_le (by omega)]
theorem pcs_lo {cur es : List UInt8} {o p k : Nat} (h : o + es.length ≤ cur.length) (hp : p + k ≤ o) : pcs (pAt cur o es) p k = pcs cur p k := by
  refine List.ext_getElem? fun i => ?_
  simp only [pcs, List.getElem?_take, List.getElem?_drop]
  split
  · unfold pAt
    rw [List.append_assoc, List.getElem?_append_left (by simp; omega), List.getElem?_take, if_pos (by omega)]
  · rfl
theorem pcs_hi {cur es : List UInt8} {o p k : Nat} (h : o + es.length ≤ cur.length) (hp : o + es.length ≤ p) : pcs (pAt cur o es) p k = pcs cur p k := by
  unfold pcs pAt
  have ht : (cur.take o).length = o := by simp; omega
  rw [List.drop_append, List.length_append, ht, List.drop_of_length_le (by simp; omega), List.nil_append, List.drop_drop]
  congr 2; omega
section enc
variable {ds : List UInt8} {n : Nat} {gu : List UInt8} {ps : List GP}
def encHdr (n : Nat) (gu : List UInt8) (ps : List GP) : List UInt8 := hdrB 1 ((n : Int) - 1) 2 n (gB gu) (crc32 (arrB ps))
def encHdr2 (n : Nat) (gu : List UInt8) (ps : List GP) : List UInt8 := hdrB ((n : Int) - 1) 1 ((n : Int) - 33) n (gB gu) (crc32 (arrB ps))
theorem enc_at (hn : 80 ≤ n) (hd : ds.length = n * 512) (hf : ∀ p ∈ ps, p.fits) (hm : (mbrB ds (protM n)).length = ds.length) :
    pcs (encB ds n gu ps) 512 512 = encHdr n gu ps ∧ pcs (encB ds n gu ps) 1024 16384 = arrB ps ∧ pcs (encB ds n gu ps) ((n - 33) * 512) 16384 = arrB ps ∧ pcs (encB ds n gu ps) ((n - 1) * 512) 512 = encHdr2 n gu ps ∧ pcs (encB ds n gu ps) 0 512 = pcs (mbrB ds (protM n)) 0 512 := by
  have ha : (arrB ps).length = 16384 := arrB_len hf
  have h1 : (encHdr n gu ps).length = 512 := hdrB_len (gB_len gu)
  have h2 : (encHdr2 n gu ps).length = 512 := hdrB_len (gB_len gu)
  have e : encB ds n gu ps = pAt (pAt (pAt (pAt (mbrB ds (protM n)) 512 (encHdr n gu ps)) 1024 (arrB ps)) ((n - 33) * 512) (arrB ps)) ((n - 1) * 512) (encHdr2 n gu ps) := rfl
  have l1 : (pAt (mbrB ds (protM n)) 512 (encHdr n gu ps)).length = n * 512 := by rw [pAt_len (by omega)]; omega
  have l2 : (pAt (pAt (mbrB ds (protM n)) 512 (encHdr n gu ps)) 1024 (arrB ps)).length = n * 512 := by rw [pAt_len (by omega)]; omega
  have l3 : (pAt (pAt (pAt (mbrB ds (protM n)) 512 (encHdr n gu ps)) 1024 (arrB ps)) ((n - 33) * 512) (arrB ps)).length = n * 512 := by rw [pAt_len (by omega)]; omega
  rw [e]
  refine ⟨?_, ?_, ?_, ?_, ?_⟩
  · rw [pcs_lo (by omega) (by omega), pcs_lo (by omega) (by omega), pcs_lo (by omega) (by omega), pcs_in h1 (by omega)]
  · rw [pcs_lo (by omega) (by omega), pcs_lo (by omega) (by omega), pcs_in ha (by omega)]
  · rw [pcs_lo (by omega) (by omega), pcs_in ha (by omega)]
  · rw [pcs_in h2 (by omega)]
  · rw [pcs_lo (by omega) (by omega), pcs_lo (by omega) (by omega), pcs_lo (by omega) (by omega), pcs_lo (by omega) (by omega)]
end enc
theorem pcs_mid {xs ys zs : List UInt8} {p k : Nat} (hp : xs.length = p) (hk : ys.length = k) : pcs (xs ++ (ys ++ zs)) p k = ys := by
  unfold pcs
  rw [List.drop_append, List.drop_of_length_le (by omega), List.nil_append, hp, Nat.sub_self, List.drop_zero, List.take_append, hk, Nat.sub_self, List.take_zero, List.append_nil, List.take_of_length_le (by omega)]
theorem pAt_mid {xs ys zs es : List UInt8} {p : Nat} (hp : xs.length = p) (hk : es.length = ys.length) : pAt (xs ++ (ys ++ zs)) p es = xs ++ (es ++ zs) := by
  unfold pAt
  rw [List.take_append, hp, Nat.sub_self, List.take_zero, List.append_nil, List.take_of_length_le (by omega), hk, ← hp, List.drop_append, List.drop_of_length_le (by omega), List.nil_append, Nat.add_sub_cancel_left, List.drop_left, List.append_assoc]
section hdr
variable {s a o e n c : Int} {gu : List UInt8} {r : List UInt8}
theorem hf0 (h : gu.length = 16) : pcs (hdrS s a o e n gu c ++ r) 0 8 = efiL := by
  have e1 : hdrS s a o e n gu c ++ r = (([] : List UInt8)) ++ ((efiL) ++ (leB 4 65536 ++ (leB 4 92 ++ (leB 4 s ++ ([0, 0, 0, 0] ++ (leB 8 a ++ (leB 8 o ++ (leB 8 34 ++ (leB 8 (n - 34) ++ (gu ++ (leB 8 e ++ (leB 4 128 ++ (leB 4 128 ++ (leB 4 c ++ (r))))))))))))))) := by
    unfold hdrS; simp only [List.append_assoc, List.nil_append]
  rw [e1]
  exact pcs_mid (by simp only [List.length_append, leB_len, h, efiL, List.length_cons, List.length_nil]) (by simp only [leB_len, h, efiL, List.length_cons, List.length_nil])
theorem hf8 (h : gu.length = 16) : pcs (hdrS s a o e n gu c ++ r) 8 4 = leB 4 65536 := by
  have e1 : hdrS s a o e n gu c ++ r = (efiL) ++ ((leB 4 65536) ++ (leB 4 92 ++ (leB 4 s ++ ([0, 0, 0, 0] ++ (leB 8 a ++ (leB 8 o ++ (leB 8 34 ++ (leB 8 (n - 34) ++ (gu ++ (leB 8 e ++ (leB 4 128 ++ (leB 4 128 ++ (leB 4 c ++ (r)))))))))))))) := by
    unfold hdrS; simp only [List.append_assoc, List.nil_append]
  rw [e1]
  exact pcs_mid (by simp only [List.length_append, leB_len, h, efiL, List.length_cons, List.length_nil]) (by simp only [leB_len, h, efiL, List.length_cons, List.length_nil])
theorem hf12 (h : gu.length = 16) : pcs (hdrS s a o e n gu c ++ r) 12 4 = leB 4 92 := by
  have e1 : hdrS s a o e n gu c ++ r = (efiL ++ leB 4 65536) ++ ((leB 4 92) ++ (leB 4 s ++ ([0, 0, 0, 0] ++ (leB 8 a ++ (leB 8 o ++ (leB 8 34 ++ (leB 8 (n - 34) ++ (gu ++ (leB 8 e ++ (leB 4 128 ++ (leB 4 128 ++ (leB 4 c ++ (r))))))))))))) := by
    unfold hdrS; simp only [List.append_assoc, List.nil_append]
  rw [e1]
  exact pcs_mid (by simp only [List.length_append, leB_len, h, efiL, List.length_cons, List.length_nil]) (by simp only [leB_len, h, efiL, List.length_cons, List.length_nil])
theorem hf16 (h : gu.length = 16) : pcs (hdrS s a o e n gu c ++ r) 16 4 = leB 4 s := by
  have e1 : hdrS s a o e n gu c ++ r = (efiL ++ leB 4 65536 ++ leB 4 92) ++ ((leB 4 s) ++ ([0, 0, 0, 0] ++ (leB 8 a ++ (leB 8 o ++ (leB 8 34 ++ (leB 8 (n - 34) ++ (gu ++ (leB 8 e ++ (leB 4 128 ++ (leB 4 128 ++ (leB 4 c ++ (r)))))))))))) := by
    unfold hdrS; simp only [List.append_assoc, List.nil_append]
  rw [e1]
  exact pcs_mid (by simp only [List.length_append, leB_len, h, efiL, List.length_cons, List.length_nil]) (by simp only [leB_len, h, efiL, List.length_cons, List.length_nil])
theorem hf20 (h : gu.length = 16) : pcs (hdrS s a o e n gu c ++ r) 20 4 = [0, 0, 0, 0] := by
  have e1 : hdrS s a o e n gu c ++ r = (efiL ++ leB 4 65536 ++ leB 4 92 ++ leB 4 s) ++ (([0, 0, 0, 0]) ++ (leB 8 a ++ (leB 8 o ++ (leB 8 34 ++ (leB 8 (n - 34) ++ (gu ++ (leB 8 e ++ (leB 4 128 ++ (leB 4 128 ++ (leB 4 c ++ (r))))))))))) := by
    unfold hdrS; simp only [List.append_assoc, List.nil_append]
  rw [e1]
  exact pcs_mid (by simp only [List.length_append, leB_len, h, efiL, List.length_cons, List.length_nil]) (by simp only [leB_len, h, efiL, List.length_cons, List.length_nil])
theorem hf24 (h : gu.length = 16) : pcs (hdrS s a o e n gu c ++ r) 24 8 = leB 8 a := by
  have e1 : hdrS s a o e n gu c ++ r = (efiL ++ leB 4 65536 ++ leB 4 92 ++ leB 4 s ++ [0, 0, 0, 0]) ++ ((leB 8 a) ++ (leB 8 o ++ (leB 8 34 ++ (leB 8 (n - 34) ++ (gu ++ (leB 8 e ++ (leB 4 128 ++ (leB 4 128 ++ (leB 4 c ++ (r)))))))))) := by
    unfold hdrS; simp only [List.append_assoc, List.nil_append]
  rw [e1]
  exact pcs_mid (by simp only [List.length_append, leB_len, h, efiL, List.length_cons, List.length_nil]) (by simp only [leB_len, h, efiL, List.length_cons, List.length_nil])
theorem hf32 (h : gu.length = 16) : pcs (hdrS s a o e n gu c ++ r) 32 8 = leB 8 o := by
  have e1 : hdrS s a o e n gu c ++ r = (efiL ++ leB 4 65536 ++ leB 4 92 ++ leB 4 s ++ [0, 0, 0, 0] ++ leB 8 a) ++ ((leB 8 o) ++ (leB 8 34 ++ (leB 8 (n - 34) ++ (gu ++ (leB 8 e ++ (leB 4 128 ++ (leB 4 128 ++ (leB 4 c ++ (r))))))))) := by
    unfold hdrS; simp only [List.append_assoc, List.nil_append]
  rw [e1]
  exact pcs_mid (by simp only [List.length_append, leB_len, h, efiL, List.length_cons, List.length_nil]) (by simp only [leB_len, h, efiL, List.length_cons, List.length_nil])
theorem hf40 (h : gu.length = 16) : pcs (hdrS s a o e n gu c ++ r) 40 8 = leB 8 34 := by
  have e1 : hdrS s a o e n gu c ++ r = (efiL ++ leB 4 65536 ++ leB 4 92 ++ leB 4 s ++ [0, 0, 0, 0] ++ leB 8 a ++ leB 8 o) ++ ((leB 8 34) ++ (leB 8 (n - 34) ++ (gu ++ (leB 8 e ++ (leB 4 128 ++ (leB 4 128 ++ (leB 4 c ++ (r)))))))) := by
    unfold hdrS; simp only [List.append_assoc, List.nil_append]
  rw [e1]
  exact pcs_mid (by simp only [List.length_append, leB_len, h, efiL, List.length_cons, List.length_nil]) (by simp only [leB_len, h, efiL, List.length_cons, List.length_nil])
theorem hf48 (h : gu.length = 16) : pcs (hdrS s a o e n gu c ++ r) 48 8 = leB 8 (n - 34) := by
  have e1 : hdrS s a o e n gu c ++ r = (efiL ++ leB 4 65536 ++ leB 4 92 ++ leB 4 s ++ [0, 0, 0, 0] ++ leB 8 a ++ leB 8 o ++ leB 8 34) ++ ((leB 8 (n - 34)) ++ (gu ++ (leB 8 e ++ (leB 4 128 ++ (leB 4 128 ++ (leB 4 c ++ (r))))))) := by
    unfold hdrS; simp only [List.append_assoc, List.nil_append]
  rw [e1]
  exact pcs_mid (by simp only [List.length_append, leB_len, h, efiL, List.length_cons, List.length_nil]) (by simp only [leB_len, h, efiL, List.length_cons, List.length_nil])
theorem hf56 (h : gu.length = 16) : pcs (hdrS s a o e n gu c ++ r) 56 16 = gu := by
  have e1 : hdrS s a o e n gu c ++ r = (efiL ++ leB 4 65536 ++ leB 4 92 ++ leB 4 s ++ [0, 0, 0, 0] ++ leB 8 a ++ leB 8 o ++ leB 8 34 ++ leB 8 (n - 34)) ++ ((gu) ++ (leB 8 e ++ (leB 4 128 ++ (leB 4 128 ++ (leB 4 c ++ (r)))))) := by
    unfold hdrS; simp only [List.append_assoc, List.nil_append]
  rw [e1]
  exact pcs_mid (by simp only [List.length_append, leB_len, h, efiL, List.length_cons, List.length_nil]) (by simp only [leB_len, h, efiL, List.length_cons, List.length_nil])
theorem hf72 (h : gu.length = 16) : pcs (hdrS s a o e n gu c ++ r) 72 8 = leB 8 e := by
  have e1 : hdrS s a o e n gu c ++ r = (efiL ++ leB 4 65536 ++ leB 4 92 ++ leB 4 s ++ [0, 0, 0, 0] ++ leB 8 a ++ leB 8 o ++ leB 8 34 ++ leB 8 (n - 34) ++ gu) ++ ((leB 8 e) ++ (leB 4 128 ++ (leB 4 128 ++ (leB 4 c ++ (r))))) := by
    unfold hdrS; simp only [List.append_assoc, List.nil_append]
  rw [e1]
  exact pcs_mid (by simp only [List.length_append, leB_len, h, efiL, List.length_cons, List.length_nil]) (by simp only [leB_len, h, efiL, List.length_cons, List.length_nil])
theorem hf80 (h : gu.length = 16) : pcs (hdrS s a o e n gu c ++ r) 80 4 = leB 4 128 := by
  have e1 : hdrS s a o e n gu c ++ r = (efiL ++ leB 4 65536 ++ leB 4 92 ++ leB 4 s ++ [0, 0, 0, 0] ++ leB 8 a ++ leB 8 o ++ leB 8 34 ++ leB 8 (n - 34) ++ gu ++ leB 8 e) ++ ((leB 4 128) ++ (leB 4 128 ++ (leB 4 c ++ (r)))) := by
    unfold hdrS; simp only [List.append_assoc, List.nil_append]
  rw [e1]
  exact pcs_mid (by simp only [List.length_append, leB_len, h, efiL, List.length_cons, List.length_nil]) (by simp only [leB_len, h, efiL, List.length_cons, List.length_nil])
theorem hf84 (h : gu.length = 16) : pcs (hdrS s a o e n gu c ++ r) 84 4 = leB 4 128 := by
  have e1 : hdrS s a o e n gu c ++ r = (efiL ++ leB 4 65536 ++ leB 4 92 ++ leB 4 s ++ [0, 0, 0, 0] ++ leB 8 a ++ leB 8 o ++ leB 8 34 ++ leB 8 (n - 34) ++ gu ++ leB 8 e ++ leB 4 128) ++ ((leB 4 128) ++ (leB 4 c ++ (r))) := by
    unfold hdrS; simp only [List.append_assoc, List.nil_append]
  rw [e1]
  exact pcs_mid (by simp only [List.length_append, leB_len, h, efiL, List.length_cons, List.length_nil]) (by simp only [leB_len, h, efiL, List.length_cons, List.length_nil])
theorem hf88 (h : gu.length = 16) : pcs (hdrS s a o e n gu c ++ r) 88 4 = leB 4 c := by
  have e1 : hdrS s a o e n gu c ++ r = (efiL ++ leB 4 65536 ++ leB 4 92 ++ leB 4 s ++ [0, 0, 0, 0] ++ leB 8 a ++ leB 8 o ++ leB 8 34 ++ leB 8 (n - 34) ++ gu ++ leB 8 e ++ leB 4 128 ++ leB 4 128) ++ ((leB 4 c) ++ (r)) := by
    unfold hdrS; simp only [List.append_assoc, List.nil_append]
  rw [e1]
  exact pcs_mid (by simp only [List.length_append, leB_len, h, efiL, List.length_cons, List.length_nil]) (by simp only [leB_len, h, efiL, List.length_cons, List.length_nil])
theorem hz (h : gu.length = 16) : zHdr (hdrS s a o e n gu c) = hdrS 0 a o e n gu c := by
  have e1 : ∀ t : Int, hdrS t a o e n gu c = (efiL ++ leB 4 65536 ++ leB 4 92) ++ (leB 4 t ++ ([0, 0, 0, 0] ++ leB 8 a ++ leB 8 o ++ leB 8 34 ++ leB 8 (n - 34) ++ gu ++ leB 8 e ++ leB 4 128 ++ leB 4 128 ++ leB 4 c)) := fun t => by
    unfold hdrS; simp only [List.append_assoc]
  unfold zHdr
  rw [e1, pAt_mid (by simp only [List.length_append, leB_len, efiL, List.length_cons, List.length_nil]) (by simp only [leB_len, List.length_cons, List.length_nil]), e1]
  rfl
theorem hdrS_rng (bs : List UInt8) : 0 ≤ crc32 bs ∧ crc32 bs < 4294967296 := by have := crc32_rng bs; omega
theorem laid_hdr {D : List UInt8} {A : Nat} (hp : pcs D A 512 = hdrB a o e n gu c) (h : gu.length = 16) (ha : 0 ≤ a ∧ a < 4294967296) (ho : 0 ≤ o ∧ o < 4294967296) (he : 0 ≤ e ∧ e < 4294967296) (hn : 34 ≤ n ∧ n < 4294967296) (hc : 0 ≤ c ∧ c < 4294967296) :
    hdrGood D A = true ∧ (fld D (A + 72) 8 = e ∧ fld D (A + 80) 4 = 128 ∧ fld D (A + 84) 4 = 128) ∧ fld D (A + 88) 4 = c ∧ fld D (A + 24) 8 = a ∧ fld D (A + 32) 8 = o ∧ fld D (A + 48) 8 = n - 34 ∧ pcs D (A + 56) 16 = gu ∧ sigOk D A = true ∧ crcOk D A = true := by
  have P : ∀ p k, p + k ≤ 512 → pcs D (A + p) k = pcs (hdrB a o e n gu c) p k := fun p k hk => by rw [← hp, pcsA hk]
  have F : ∀ p k, p + k ≤ 512 → fld D (A + p) k = leV (pcs (hdrB a o e n gu c) p k) := fun p k hk => by unfold fld; rw [P p k hk]
  have L8 : ∀ v : Int, 0 ≤ v ∧ v < 4294967296 → leV (leB 8 v) = v := fun v hv => leV_leB 8 hv.1 (by have : (256 : Int) ^ 8 = 18446744073709551616 := by decide
                                                                                                    omega)
  have L4 : ∀ v : Int, 0 ≤ v ∧ v < 4294967296 → leV (leB 4 v) = v := fun v hv => leV_leB 4 hv.1 (by have : (256 : Int) ^ 4 = 4294967296 := by decide
                                                                                                    omega)
  have hs : sigOk D A = true := decide_eq_true (by have := P 0 8 (by decide); rw [Nat.add_zero] at this; rw [this]; exact hf0 h)
  have h92 : pcs D A 92 = hdrS (crc32 (hdrS 0 a o e n gu c)) a o e n gu c := by
    have h1 := P 0 92 (by decide)
    rw [Nat.add_zero] at h1
    rw [h1]
    have h2 := pcs_mid (xs := []) (ys := hdrS (crc32 (hdrS 0 a o e n gu c)) a o e n gu c) (zs := List.replicate 420 0) (p := 0) (k := 92) rfl (hdrS_len h)
    exact h2
  have hk : crcOk D A = true := decide_eq_true (by
    rw [h92, hz h, F 16 4 (by decide)]
    have : pcs (hdrB a o e n gu c) 16 4 = leB 4 (crc32 (hdrS 0 a o e n gu c)) := hf16 h
    rw [this, L4 _ (hdrS_rng _)])
  refine ⟨?_, ⟨?_, ?_, ?_⟩, ?_, ?_, ?_, ?_, ?_, hs, hk⟩
  · unfold hdrGood
    rw [hs, hk, P 8 4 (by decide), P 12 4 (by decide), P 20 4 (by decide)]
    rw [show pcs (hdrB a o e n gu c) 8 4 = leB 4 65536 from hf8 h, show pcs (hdrB a o e n gu c) 12 4 = leB 4 92 from hf12 h, show pcs (hdrB a o e n gu c) 20 4 = [0, 0, 0, 0] from hf20 h]
    rfl
  · rw [F 72 8 (by decide), show pcs (hdrB a o e n gu c) 72 8 = leB 8 e from hf72 h, L8 _ he]
  · rw [F 80 4 (by decide), show pcs (hdrB a o e n gu c) 80 4 = leB 4 128 from hf80 h]; rfl
  · rw [F 84 4 (by decide), show pcs (hdrB a o e n gu c) 84 4 = leB 4 128 from hf84 h]; rfl
  · rw [F 88 4 (by decide), show pcs (hdrB a o e n gu c) 88 4 = leB 4 c from hf88 h, L4 _ hc]
  · rw [F 24 8 (by decide), show pcs (hdrB a o e n gu c) 24 8 = leB 8 a from hf24 h, L8 _ ha]
  · rw [F 32 8 (by decide), show pcs (hdrB a o e n gu c) 32 8 = leB 8 o from hf32 h, L8 _ ho]
  · rw [F 48 8 (by decide), show pcs (hdrB a o e n gu c) 48 8 = leB 8 (n - 34) from hf48 h, L8 _ (by omega)]
  · rw [P 56 16 (by decide)]; exact hf56 h
theorem laid_fits {D : List UInt8} {A : Nat} (h1 : fld D (A + 72) 8 < 4194304) (h2 : fld D (A + 80) 4 = 128) (h3 : fld D (A + 84) 4 = 128) : fitsB D 512 A = true := by
  unfold fitsB
  rw [h2, h3, decide_eq_true (p := fld D (A + 72) 8 < 2147483648 / ((512 : Nat) : Int)) (by omega)]
  simp
end hdr
end Go.Proofs.YthcaejaaalkglaaGreatDoor.X
/- What is read of an array that the statements have laid. -/
namespace Go.Proofs.YthcaejaaalkglaaGreatDoor.X
set_option linter.unusedVariables false
set_option linter.unusedSimpArgs false
open Go
def padE (p : GP) : List UInt8 := entB p ++ List.replicate (128 - (entB p).length) 0
theorem entB_le {p : GP} (h : p.fits) : (entB p).length ≤ 128 := by
 obtain ⟨_, _, h3⟩ := h
 rw [entB_len]; omega
theorem padE_len {p : GP} (h : p.fits) : (padE p).length = 128 := by
 have := entB_le h
 unfold padE; rw [List.length_append, List.length_replicate]; omega
theorem entA_other {a : List UInt8} {p : GP} {j : Nat} (ha : a.length = 16384) (hf : p.fits) (hj : j < 128) (hne : j ≠ (p.ix - 1).toNat) : entA (arrP a p) j = entA a j := by
 have hl := entB_le hf
 obtain ⟨f1, f2, f3⟩ := hf
 unfold entA arrP
 rcases Nat.lt_or_gt_of_ne hne with h | h
 ·exact pcs_lo (by omega) (by omega)
 ·exact pcs_hi (by omega) (by omega)
theorem entA_zero {j : Nat} (hj : j < 128) : entA (List.replicate 16384 0) j = List.replicate 128 0 := by
 unfold entA pcs
 rw [List.drop_replicate, List.take_replicate]
 congr 1; omega
theorem entA_same {a : List UInt8} {p : GP} {j : Nat} (ha : a.length = 16384) (hf : p.fits) (hj : j = (p.ix - 1).toNat) (hz : entA a j = List.replicate 128 0) : entA (arrP a p) j = padE p := by
 have hl := entB_le hf
 obtain ⟨f1, f2, f3⟩ := hf
 subst hj
 have h0 : pcs (arrP a p) (128 * (p.ix - 1).toNat) (entB p).length = entB p := pcs_in rfl (by omega)
 have h1 : pcs (arrP a p) (128 * (p.ix - 1).toNat + (entB p).length) (128 - (entB p).length) = List.replicate (128 - (entB p).length) 0 := by
  unfold arrP
  rw [pcs_hi (by omega) (by omega), ← pcsA (n := 128) (by omega)]
  have : pcs a (128 * (p.ix - 1).toNat) 128 = List.replicate 128 0 := hz
  rw [this]
  unfold pcs
  rw [List.drop_replicate, List.take_replicate]
  congr 1; omega
 unfold entA padE
 rw [← h1]
 have hs : ∀ (bs : List UInt8) (o i k : Nat), pcs bs o (i + k) = pcs bs o i ++ pcs bs (o + i) k := fun bs o i k => by
  unfold pcs
  rw [List.take_add, List.drop_drop]
 have e := hs (arrP a p) (128 * (p.ix - 1).toNat) (entB p).length (128 - (entB p).length)
 rw [show (entB p).length + (128 - (entB p).length) = 128 by omega, h0] at e
 exact e
theorem entA_fold : ∀ (ps : List GP) (a : List UInt8), a.length = 16384 → (∀ p ∈ ps, p.fits) → (∀ j, j < 128 → (∀ p ∈ ps, (p.ix - 1).toNat ≠ j) → entA (ps.foldl arrP a) j = entA a j)
 | [], a, ha, hf, j, hj, hn => rfl
 | p :: r, a, ha, hf, j, hj, hn => by
  rw [List.foldl_cons, entA_fold r _ (arrP_len ha (hf p (.head _))) (fun q hq => hf q (.tail _ hq)) j hj (fun q hq => hn q (.tail _ hq))]
  exact entA_other ha (hf p (.head _)) hj (fun h => hn p (.head _) h.symm)
theorem entA_free {ps : List GP} {j : Nat} (hf : ∀ p ∈ ps, p.fits) (hj : j < 128) (hn : ∀ p ∈ ps, (p.ix - 1).toNat ≠ j) : entA (arrB ps) j = List.replicate 128 0 := by
 unfold arrB
 rw [entA_fold ps _ List.length_replicate hf j hj hn, entA_zero hj]
theorem entA_at : ∀ (ps : List GP) (a : List UInt8) (p : GP), a.length = 16384 → (∀ q ∈ ps, q.fits) → p ∈ ps → ps.Pairwise (fun x y => x.ix ≠ y.ix) → entA a (p.ix - 1).toNat = List.replicate 128 0 → entA (ps.foldl arrP a) (p.ix - 1).toNat = padE p
 | [], a, p, ha, hf, hp, hd, hz => absurd hp (by simp)
 | q :: r, a, p, ha, hf, hp, hd, hz => by
  rw [List.foldl_cons]
  rw [List.pairwise_cons] at hd
  have hfq := hf q (.head _)
  rcases List.mem_cons.1 hp with rfl | hp
  ·have h128 : (p.ix - 1).toNat < 128 := by have := hfq.1; have := hfq.2.1; omega
   rw [entA_fold r _ (arrP_len ha hfq) (fun x hx => hf x (.tail _ hx)) _ h128 (fun x hx h => hd.1 x hx (by
    have h1 := (hf x (.tail _ hx)).1; have h2 := hfq.1; omega))]
   exact entA_same ha hfq rfl hz
  ·have hfp := hf p (.tail _ hp)
   refine entA_at r _ p (arrP_len ha hfq) (fun x hx => hf x (.tail _ hx)) hp hd.2 ?_
   rw [entA_other ha hfq (by have := hfp.1; have := hfp.2.1; omega) (fun h => hd.1 p hp (by have h1 := hfp.1; have h2 := hfq.1; omega))]
   exact hz
theorem padE_eq (p : GP) : ∃ r, padE p = gB p.ty ++ (gB p.gu ++ (leB 8 p.st ++ (leB 8 p.en ++ (leB 8 p.att ++ (entN p.nm ++ r))))) := ⟨List.replicate (128 - (entB p).length) 0, by
 have e : padE p = entB p ++ List.replicate (128 - (entB p).length) 0 := rfl
 rw [e]
 generalize List.replicate (128 - (entB p).length) (0 : UInt8) = r
 unfold entB entH; simp only [List.append_assoc]⟩
theorem leV8 {v : Int} (h : 0 ≤ v ∧ v ≤ 18446744073709551615) : leV (leB 8 v) = v := leV_leB 8 h.1 (by
 have : (256 : Int) ^ 8 = 18446744073709551616 := by decide
 omega)
theorem pad_fields {p : GP} (h : p.ok) : pcs (padE p) 0 16 = gB p.ty ∧ pcs (padE p) 16 16 = gB p.gu ∧ fld (padE p) 32 8 = p.st ∧ fld (padE p) 40 8 = p.en ∧ fld (padE p) 48 8 = p.att := by
 obtain ⟨r, e⟩ := padE_eq p
 have e1 : padE p = gB p.ty ++ (gB p.gu ++ (leB 8 p.st ++ (leB 8 p.en ++ (leB 8 p.att ++ (entN p.nm ++ r))))) := e
 have e2 : padE p = (gB p.ty ++ gB p.gu) ++ (leB 8 p.st ++ (leB 8 p.en ++ (leB 8 p.att ++ (entN p.nm ++ r)))) := by rw [e]; simp only [List.append_assoc]
 have e3 : padE p = (gB p.ty ++ gB p.gu ++ leB 8 p.st) ++ (leB 8 p.en ++ (leB 8 p.att ++ (entN p.nm ++ r))) := by rw [e]; simp only [List.append_assoc]
 have e4 : padE p = (gB p.ty ++ gB p.gu ++ leB 8 p.st ++ leB 8 p.en) ++ (leB 8 p.att ++ (entN p.nm ++ r)) := by rw [e]; simp only [List.append_assoc]
 refine ⟨?_, ?_, ?_, ?_, ?_⟩
 ·rw [e1]; exact pcs_mid (xs := []) rfl (gB_len _)
 ·rw [e1]; exact pcs_mid (gB_len _) (gB_len _)
 ·unfold fld; rw [e2, pcs_mid (by simp only [List.length_append, gB_len]) (leB_len 8 _)]; exact leV8 h.st
 ·unfold fld; rw [e3, pcs_mid (by simp only [List.length_append, gB_len, leB_len]) (leB_len 8 _)]; exact leV8 h.en
 ·unfold fld; rw [e4, pcs_mid (by simp only [List.length_append, gB_len, leB_len]) (leB_len 8 _)]; exact leV8 h.att
end Go.Proofs.YthcaejaaalkglaaGreatDoor.X
/- The small table, laid and read. -/
namespace Go.Proofs.YthcaejaaalkglaaGreatDoor.X
set_option linter.unusedVariables false
open Go
theorem usedP_one {ar : List UInt8} (h0 : freeE (entA ar 0) = false) (hr : ∀ j, 0 < j → j < 128 → freeE (entA ar j) = true) : ∀ m, m + 1 ≤ 128 → usedP ar (m + 1) = [gpE 1 (entA ar 0)]
 | 0, _ => by
  unfold usedP
  simp [List.range_succ, useP, h0]
 | m + 1, h => by
  have ih := usedP_one h0 hr m (by omega)
  unfold usedP at ih ⊢
  rw [List.range_succ, List.filterMap_append, ih]
  simp [useP, hr (m + 1) (by omega) (by omega)]
theorem pS_fits : pS.fits := ⟨by decide, by decide, by decide +kernel⟩
theorem pS_fit : pS.fit := ⟨by decide, by decide, by decide⟩
theorem small_used : usedP (arrB [pS]) 128 = [gpE 1 (padE pS)] := by
 have hf : ∀ p ∈ [pS], p.fits := fun p hp => by
  obtain rfl : p = pS := by simpa using hp
  exact pS_fits
 have h0 : entA (arrB [pS]) 0 = padE pS := entA_at [pS] _ pS List.length_replicate hf (by simp) (by simp) (entA_zero (by decide))
 have h1 : freeE (entA (arrB [pS]) 0) = false := by rw [h0]; decide +kernel
 rw [usedP_one h1 (fun j hj h => by
  rw [entA_free hf h (fun p hp e => by
   obtain rfl : p = pS := by simpa using hp
   have : (pS.ix - 1).toNat = 0 := rfl
   omega)]
  decide +kernel) 127 (by decide), h0]
theorem small_keep : keepP [gpE 1 (padE pS)] = [gpE 1 (padE pS)] := by
 have h : sameG (gpE 1 (padE pS)).ty zG = false := by decide +kernel
 simp [keepP, h]
theorem small_same : sameT (gT (gB gS)) gS [gpE 1 (padE pS)] [pS] = true := by decide +kernel
theorem small_ok : (gpE 1 (padE pS)).ok := by
 obtain ⟨h1, h2, h3, h4, h5⟩ := pad_fields pS_ok
 exact ⟨by decide, by show 0 ≤ fld _ 32 8 ∧ _; rw [h3]; exact pS_ok.st, by show 0 ≤ fld _ 40 8 ∧ _; rw [h4]; exact pS_ok.en, by show 0 ≤ szE _ ∧ _; unfold szE; rw [h3, h4]; decide, by show 0 ≤ fld _ 48 8 ∧ _; rw [h5]; exact pS_ok.att⟩
end Go.Proofs.YthcaejaaalkglaaGreatDoor.X
/- A disk that the statements have laid, as the package reads it. -/
namespace Go.Proofs.YthcaejaaalkglaaGreatDoor.X
set_option linter.unusedVariables false
open Go
theorem prot_len {ds : List UInt8} {n : Nat} (hd : ds.length = n * 512) (hn : 80 ≤ n) : (mbrB ds (protM n)).length = ds.length := by
 unfold mbrB
 exact pAt_len (by rw [List.length_append, flat_len MP.bytes_len]; simp [protM]; omega)
theorem laid_all {ds : List UInt8} {n : Nat} {gu : List UInt8} {ps : List GP} (hn : 80 ≤ n ∧ n ≤ 1000000) (hd : ds.length = n * 512) (hf : ∀ p ∈ ps, p.fits) :
  ((hdrGood (encB ds n gu ps) 512 && decide (fld (encB ds n gu ps) 600 4 = crc32 (pcs (encB ds n gu ps) 1024 16384))) = true ∧ pcs (encB ds n gu ps) 1024 16384 = arrB ps ∧ pcs (encB ds n gu ps) 568 16 = gB gu) ∧
  (hdrGood (encB ds n gu ps) 512 = true → fld (encB ds n gu ps) 584 8 = 2 ∧ fld (encB ds n gu ps) 592 4 = 128 ∧ fld (encB ds n gu ps) 596 4 = 128) ∧
  (hdrGood (encB ds n gu ps) (512 * (n - 1)) = true → fld (encB ds n gu ps) (512 * (n - 1) + 72) 8 = ((n - 33 : Nat) : Int) ∧ fld (encB ds n gu ps) (512 * (n - 1) + 80) 4 = 128 ∧ fld (encB ds n gu ps) (512 * (n - 1) + 84) 4 = 128) ∧
  fitsB (encB ds n gu ps) 512 512 = true ∧ fitsB (encB ds n gu ps) 512 (512 * (n - 1)) = true := by
 obtain ⟨e1, e2, e3, e4, e5⟩ := enc_at (gu := gu) hn.1 hd hf (prot_len hd hn.1)
 have hc := hdrS_rng (arrB ps)
 obtain ⟨g1, ⟨f1, f2, f3⟩, f4, f5, f6, f7, f8, _⟩ := laid_hdr (D := encB ds n gu ps) (A := 512) e1 (gB_len gu) (by decide) (by omega) (by decide) (by omega) hc
 rw [Nat.mul_comm] at e4
 obtain ⟨k1, ⟨q1, q2, q3⟩, q4, q5, q6, q7, q8, _⟩ := laid_hdr (D := encB ds n gu ps) (A := 512 * (n - 1)) e4 (gB_len gu) (by omega) (by decide) (by omega) (by omega) hc
 refine ⟨⟨?_, e2, f8⟩, fun _ => ⟨f1, f2, f3⟩, fun _ => ⟨by rw [q1]; omega, q2, q3⟩, laid_fits (by rw [f1]; decide) f2 f3, laid_fits (by rw [q1]; omega) q2 q3⟩
 rw [g1, Bool.true_and, e2]
 exact decide_eq_true f4
theorem small_oks : ∀ p ∈ [pS], p.ok := fun p hp => by
 obtain rfl : p = pS := by simpa using hp
 exact pS_ok
theorem small_fits : ∀ p ∈ [pS], p.fit ∧ p.fits := fun p hp => by
 obtain rfl : p = pS := by simpa using hp
 exact ⟨pS_fit, pS_fits⟩
theorem small_fitsb : ∀ p ∈ [pS], p.fits := fun p hp => (small_fits p hp).2
theorem small_told : ∀ p ∈ [gpE 1 (padE pS)], p.ok := fun p hp => by
 obtain rfl : p = gpE 1 (padE pS) := by simpa using hp
 exact small_ok
end Go.Proofs.YthcaejaaalkglaaGreatDoor.X
/- Walks of functions, printed by a program of this claim. -/
namespace Go.Proofs.YthcaejaaalkglaaGreatDoor.X
set_option linter.unusedVariables false
set_option linter.unusedSimpArgs false
open Go Go.RowKit
namespace PF
theorem ca12 : callable Tryz.prog 12 = true := by kernel_rfl
theorem ca15 : callable Tryz.prog 15 = true := by kernel_rfl
theorem ca17 : callable Tryz.prog 17 = true := by kernel_rfl
theorem ca18 : callable Tryz.prog 18 = true := by kernel_rfl
theorem ca26 : callable Tryz.prog 26 = true := by kernel_rfl
end PF
open PF
set_option maxRecDepth 100000 in
set_option maxHeartbeats 1000000 in
theorem c_awake (w : World)  : Calls Tryz.prog 10 #[] w (Ret fun v w' => v = .bool true ∧ Fr [] w w') := by
 refine enter (fun ρ => ρ 0) Tryz.func10 rfl rfl rfl (res1 rfl) ?_
 have H := SH.nil w
 obtain ⟨⟨L1, L2, L3⟩, L4, L5, L6, L7⟩ := laid_all (ds := List.replicate 51200 0) (n := 100) (gu := gS) (ps := [pS]) (by decide) List.length_replicate small_fitsb
 refine sq ?_
 refine rg ?_
 refine asg (v := .bool _) rfl rfl ?_
 refine nl ?_
 refine then_n ?_
 refine sq ?_
 refine rg ?_
 refine mkB H rfl rfl Tryz.underlying30 mi5 (by omega) (by omega) (by omega) (by omega) rfl ?_
 clear H; intro b1 w1 hb1 H _
 refine asg (v := .slice _ _ _) rfl rfl ?_
 refine nl ?_
 refine then_n ?_
 refine sq ?_
 refine rg ?_
 refine mv (v := .slice _ _ _) rfl rfl ?_
 refine cl ca26 (c_small _) rfl ?_
 rintro _ w2 ⟨DS, cS, rfl, OS⟩
 have hRS := RG.of_own (ps := [pS]) OS small_oks
 replace H := H.keep OS.sh.fr
 refine cl ca12 (c_gptEncode _ b1 100 51200 _ (List.replicate 51200 0) _ 1 _ gS false [pS] (H.look (b := b1)) (by decide) (by decide) List.length_replicate hRS (by decide) small_fits) rfl ?_
 rintro _ w3 ⟨rfl, hlen, F, hnew⟩
 replace H := H.put (b := b1) F hnew; clear F hnew
 refine nl ?_
 refine then_n ?_
 refine sq ?_
 refine rg ?_
 refine mv (v := .slice _ _ _) rfl rfl ?_
 refine cl ca17 (c_implGptRead _ (some ⟨b1, 0, none⟩) 51200 51200 (encB (List.replicate 51200 0) 100 gS [pS]) (RB.allm (b := b1) H (by rw [hlen, List.length_replicate])) (by decide) 99 67 (by decide) (by decide) L4 L5 L6 L7) rfl ?_
 rintro _ w4 ⟨FR, v1, rfl, r1, r2⟩
 rw [L1, Bool.true_or]
 obtain ⟨DR, cR, rfl, OR1⟩ := r1 L1
 rw [L2, small_used] at OR1 ⊢
 rw [L3]
 have hRR := RG.of_own (ps := [gpE 1 (padE pS)]) OR1 small_told
 replace H := H.keep FR
 refine mv (v := .tuple _) rfl rfl ?_
 refine xt rfl rfl rfl ?_
 refine xt rfl rfl rfl ?_
 refine al H ze24 rfl ?_
 clear H; intro b2 w5 hb2 H _
 refine sa H rfl rfl ag24_5 rfl rfl (by decide) (by omega) rfl ?_
 clear H; intro w6 H _
 refine asg (v := .bool _) rfl rfl ?_
 refine nl ?_
 refine then_n ?_
 refine sq ?_
 refine rg ?_
 rename_i Fa Fb
 have FK := Fa.then Fb (by intro t ht; right; simp only [List.mem_singleton] at ht; subst ht; assumption)
 refine mv (v := .bool _) rfl rfl ?_
 refine mv (v := .bool _) rfl rfl ?_
 refine spL (t := 14) (b := true) rfl ?_
 refine gy rfl ?_
 refine la H rfl ag24_5 rfl rfl rfl ?_
 refine gy rfl ?_
 refine cl ca18 (c_used _ DR 1 cR (gT (gB gS)) _ false [gpE 1 (padE pS)] (hRR.keep FK) (by decide)) rfl ?_
 rintro _ w7 ⟨DU2, cU2, rfl, OU⟩
 rw [small_keep] at OU ⊢
 have hRU := RG.of_own (ps := [gpE 1 (padE pS)]) OU small_told
 replace H := H.keep OU.sh.fr
 refine gy rfl ?_
 refine cl ca26 (c_small _) rfl ?_
 rintro _ w8 ⟨DS, cS, rfl, OS⟩
 have hRS := RG.of_own (ps := [pS]) OS small_oks
 replace H := H.keep OS.sh.fr
 refine gy rfl ?_
 refine cl ca15 (c_sameGpt _ DU2 DS 1 cU2 1 cS (gT (gB gS)) gS _ _ _ _ [gpE 1 (padE pS)] [pS] (hRU.keep OS.sh.fr) hRS (by decide)) rfl ?_
 rintro _ w9 ⟨rfl, F⟩
 replace H := H.keep F; clear F
 rw [small_same]
 refine pkT (v := .bool _) rfl rfl rfl ?_
 refine asg (v := .bool _) rfl rfl ?_
 refine nl ?_
 refine then_n ?_
 refine rt ?_
 refine fin_r ?_
 exact ⟨rfl, H.fr⟩
end Go.Proofs.YthcaejaaalkglaaGreatDoor.X
/- What was laid is read back as it was. -/
namespace Go.Proofs.YthcaejaaalkglaaGreatDoor.X
set_option linter.unusedVariables false
set_option linter.unusedSimpArgs false
open Go
def okN (s : List UInt8) : Prop := ∀ c ∈ runes s, c ≠ 0 ∧ c ≠ 65533
theorem enc_runes : ∀ (n : Nat) (s : List UInt8), s.length ≤ n → okN s → encL ((runes s).map fun (c : Nat) => (c : Int)) = s
  | 0, s, h, _ => by
    have : s = [] := List.eq_nil_of_length_eq_zero (by omega)
    subst this; rfl
  | n + 1, s, h, ho => by
    by_cases he : s = []
    · subst he; rfl
    · have h1 := rune1_ok he
      have hc := runes_cons he
      obtain ⟨a1, a2, a3, a4, a5, a6, a7⟩ := h1
      have h9 := ho (rune1 s).1 (by rw [hc]; exact .head _)
      have ih := enc_runes n (s.drop (rune1 s).2) (by rw [List.length_drop]; omega) (fun c hm => ho c (by rw [hc]; exact .tail _ hm))
      rw [hc]
      unfold encL at ih ⊢
      rw [List.map_cons, List.flatMap_cons, ih, a7 h9.2]
      exact List.take_append_drop _ _
theorem runes_val : ∀ (n : Nat) (s : List UInt8), s.length ≤ n → ∀ c ∈ runes s, c < 55296 ∨ (57343 < c ∧ c ≤ 1114111)
  | 0, s, h => by
    have : s = [] := List.eq_nil_of_length_eq_zero (by omega)
    subst this; intro c hc; rw [runes_nil] at hc; exact absurd hc (by simp)
  | n + 1, s, h => by
    by_cases he : s = []
    · subst he; intro c hc; rw [runes_nil] at hc; exact absurd hc (by simp)
    · have h1 := rune1_ok he
      obtain ⟨a1, a2, a3, a4, a5, a6, a7⟩ := h1
      intro c hc
      rw [runes_cons he] at hc
      rcases List.mem_cons.1 hc with rfl | hc
      · omega
      · exact runes_val n (s.drop (rune1 s).2) (by rw [List.length_drop]; omega) c hc
theorem dec_flat : ∀ (l : List Nat), (∀ c ∈ l, c < 55296 ∨ (57343 < c ∧ c ≤ 1114111)) → dec16 (l.flatMap u16) = l.map fun (c : Nat) => (c : Int)
  | [], _ => by simp [dec16]
  | c :: l, h => by
    rw [List.flatMap_cons, dec_u16 (h c (.head _)), dec_flat l fun x hx => h x (.tail _ hx)]; rfl
theorem name_back {s : List UInt8} (h : okN s) : encL (dec16 (utf16 s)) = s := by
  unfold utf16
  rw [dec_flat _ (runes_val _ s (Nat.le_refl _))]
  exact enc_runes _ s (Nat.le_refl _) h
theorem utf16_nz {s : List UInt8} (h : okN s) : ∀ u ∈ utf16 s, u ≠ 0 := by
  intro u hu
  unfold utf16 at hu
  obtain ⟨c, hc, hm⟩ := List.mem_flatMap.1 hu
  have h1 := (h c hc).1
  unfold u16 at hm
  split at hm
  · simp at hm; omega
  · simp at hm; omega
theorem leV_00 : leV [0, 0] = 0 := by decide
theorem pad_unit {p : GP} (hf : p.fits) {j : Nat} (hj : j < 36) : fld (padE p) (56 + 2 * j) 2 = ((utf16 p.nm)[j]?).getD 0 := by
  have hl := hf.2.2
  have e : padE p = entH p ++ (entN p.nm ++ List.replicate (128 - (entB p).length) 0) := by
    unfold padE; rw [show entB p = entH p ++ entN p.nm from rfl, List.append_assoc]
  have e1 : pcs (padE p) (56 + 2 * j) 2 = pcs (entN p.nm ++ List.replicate (128 - (entB p).length) 0) (2 * j) 2 := by
    rw [e]; unfold pcs
    rw [List.drop_append, List.drop_of_length_le (by rw [entH_len]; omega), List.nil_append, entH_len]
    congr 2; omega
  unfold fld
  rw [e1]
  cases hg : (utf16 p.nm)[j]? with
  | some u =>
    have hjl := (List.getElem?_eq_some_iff.1 hg).1
    have h2 : pcs (entN p.nm ++ List.replicate (128 - (entB p).length) 0) (2 * j) 2 = leB 2 u := by
      unfold pcs
      rw [List.drop_append_of_le_length (by rw [entN_len]; omega), List.take_append_of_le_length (by rw [List.length_drop, entN_len]; omega)]
      have := flat_get (leB_len 2) (utf16 p.nm) j u hg
      rw [Nat.mul_comm] at this
      exact this
    have hr := utf16_rng _ p.nm (Nat.le_refl _) u (List.mem_of_getElem? hg)
    rw [h2, leV_leB 2 hr.1 (by have : (256 : Int) ^ 2 = 65536 := by decide
                               omega)]
    rfl
  | none =>
    have hjl := List.getElem?_eq_none_iff.1 hg
    have h2 : pcs (entN p.nm ++ List.replicate (128 - (entB p).length) 0) (2 * j) 2 = [0, 0] := by
      unfold pcs
      rw [List.drop_append, List.drop_of_length_le (by rw [entN_len]; omega), List.nil_append, entN_len, List.drop_replicate, List.take_replicate, entB_len]
      rw [show min 2 (128 - (56 + 2 * (utf16 p.nm).length) - (2 * j - 2 * (utf16 p.nm).length)) = 2 by omega]
      rfl
    rw [h2, leV_00]; rfl
theorem pad_name {p : GP} (hf : p.fits) (ho : okN p.nm) : nmB (padE p) = p.nm := by
  have hl := hf.2.2
  have ht : (unE (padE p)).take (utf16 p.nm).length = utf16 p.nm := by
    refine List.ext_getElem? fun i => ?_
    rw [List.getElem?_take]
    split
    · rename_i hi
      rw [unE_get (by omega), pad_unit hf (by omega), List.getElem?_eq_getElem hi]; rfl
    · rename_i hi
      exact (List.getElem?_eq_none_iff.2 (by omega)).symm
  have hz : ∀ u ∈ (unE (padE p)).take (utf16 p.nm).length, u ≠ 0 := by rw [ht]; exact utf16_nz ho
  have hn : nmU (padE p) = utf16 p.nm := by
    rcases Nat.lt_or_ge (utf16 p.nm).length 36 with h | h
    · rw [nmU_at hz h (by rw [pad_unit hf h, List.getElem?_eq_none_iff.2 (Nat.le_refl _)]; rfl), ht]
    · rw [nmU_full hz h, ht]
  unfold nmB
  rw [hn]
  exact name_back ho
structure GP.good (n : Nat) (p : GP) : Prop where
  ty : gOk p.ty = true
  gu : gOk p.gu = true
  tz : sameG p.ty zG = false
  gz : sameG p.gu zG = false
  un : (utf16 p.nm).length ≤ 36
  nm : okN p.nm
  ix : 1 ≤ p.ix ∧ p.ix ≤ 128
  st : 34 ≤ p.st
  en : p.st ≤ p.en
  la : p.en ≤ (n : Int) - 34
  sz : p.sz = (p.en - p.st + 1) * 512
theorem GP.good.fits {n : Nat} {p : GP} (h : p.good n) : p.fits := ⟨h.ix.1, h.ix.2, h.un⟩
theorem GP.good.ok {n : Nat} {p : GP} (h : p.good n) (hn : n ≤ 1000000) (ha : 0 ≤ p.att ∧ p.att ≤ 18446744073709551615) : p.ok := by
  have h1 := h.ix; have h2 := h.st; have h3 := h.en; have h4 := h.la; have h5 := h.sz
  exact ⟨by omega, by omega, by omega, by omega, ha⟩
def goodL (n : Nat) (ps : List GP) : Prop := (∀ p ∈ ps, p.good n) ∧ ps.Pairwise (fun x y => x.ix < y.ix)
theorem gB_zG : gB zG = List.replicate 16 0 := by decide +kernel
theorem gOk_zG : gOk zG = true := by decide +kernel
theorem sameG_z {s : List UInt8} (h : gOk s = true) (hz : sameG s zG = false) : gB s ≠ List.replicate 16 0 := by
  intro e
  unfold sameG at hz
  rw [h, gOk_zG, gB_zG, decide_eq_true e] at hz
  exact Bool.noConfusion hz
theorem sameG_gT {s : List UInt8} (h : gOk s = true) : sameG (gT (gB s)) s = true := by
  unfold sameG
  rw [(gT_ok (gB_len s)).1, h, gB_gT (gB_len s)]
  simp
theorem sameG_gTz {s : List UInt8} (h : gOk s = true) (hz : sameG s zG = false) : sameG (gT (gB s)) zG = false := by
  unfold sameG
  rw [gB_gT (gB_len s), decide_eq_false (p := gB s = gB zG) (by rw [gB_zG]; exact sameG_z h hz)]
  simp
theorem pad_free {n : Nat} {p : GP} (h : p.good n) : freeE (padE p) = false := by
  obtain ⟨r, e⟩ := padE_eq p
  unfold freeE
  have : pcs (padE p) 0 16 = gB p.ty := by rw [e]; exact pcs_mid (xs := []) rfl (gB_len _)
  rw [this]
  exact decide_eq_false (sameG_z h.ty h.tz)
def gpP (p : GP) : GP := gpE p.ix (padE p)
theorem gpP_ty {p : GP} (h : p.ok) : (gpP p).ty = gT (gB p.ty) := by show gT (pcs (padE p) 0 16) = _; rw [(pad_fields h).1]
theorem gpP_sz {n : Nat} {p : GP} (h : p.good n) (ho : p.ok) (hn : n ≤ 1000000) : szE (padE p) = p.sz := by
  obtain ⟨f1, f2, f3, f4, f5⟩ := pad_fields ho
  unfold szE
  rw [f3, f4, h.sz]
  have h2 := h.st; have h3 := h.en; have h4 := h.la
  rw [Int.emod_eq_of_lt (a := p.en - p.st) (by omega) (by omega), Int.emod_eq_of_lt (a := p.en - p.st + 1) (by omega) (by omega), Int.emod_eq_of_lt (by omega) (by omega)]
theorem gpP_same {n : Nat} {p : GP} (h : p.good n) (ho : p.ok) (hn : n ≤ 1000000) : sameP (gpP p) p = true := by
  obtain ⟨f1, f2, f3, f4, f5⟩ := pad_fields ho
  have e1 : (gpP p).ix = p.ix := rfl
  have e2 : (gpP p).st = p.st := f3
  have e3 : (gpP p).en = p.en := f4
  have e4 : (gpP p).sz = p.sz := gpP_sz h ho hn
  have e5 := gpP_ty ho
  have e6 : (gpP p).gu = gT (gB p.gu) := by show gT (pcs (padE p) 16 16) = _; rw [f2]
  have e7 : (gpP p).nm = p.nm := pad_name h.fits h.nm
  have e8 : (gpP p).att = p.att := f5
  unfold sameP
  rw [e1, e2, e3, e4, e5, e6, e7, e8, sameG_gT h.ty, sameG_gT h.gu]
  simp
theorem gpP_ok {n : Nat} {p : GP} (h : p.good n) (ho : p.ok) (hn : n ≤ 1000000) : (gpP p).ok := by
  obtain ⟨f1, f2, f3, f4, f5⟩ := pad_fields ho
  have e4 : (gpP p).sz = p.sz := gpP_sz h ho hn
  have e2 : (gpP p).st = p.st := f3
  have e3 : (gpP p).en = p.en := f4
  have e8 : (gpP p).att = p.att := f5
  exact ⟨ho.ix, by rw [e2]; exact ho.st, by rw [e3]; exact ho.en, by rw [e4]; exact ho.sz, by rw [e8]; exact ho.att⟩
theorem used_below {ps : List GP} {n : Nat} (hg : goodL n ps) : ∀ m, m ≤ 128 → usedP (arrB ps) m = (ps.filter fun p => decide (p.ix ≤ (m : Int))).map gpP
  | 0, _ => by
    have : (ps.filter fun p => decide (p.ix ≤ ((0 : Nat) : Int))) = [] := List.filter_eq_nil_iff.2 fun p hp => by
      have := (hg.1 p hp).ix
      simp; omega
    rw [this]; rfl
  | m + 1, hm => by
    have ih := used_below hg m (by omega)
    have hf : ∀ p ∈ ps, p.fits := fun p hp => (hg.1 p hp).fits
    unfold usedP at ih ⊢
    rw [List.range_succ, List.filterMap_append, ih]
    have hsplit : ∀ (l : List GP), l.Pairwise (fun x y => x.ix < y.ix) → (l.filter fun p => decide (p.ix ≤ ((m + 1 : Nat) : Int))) = (l.filter fun p => decide (p.ix ≤ (m : Int))) ++ (l.filter fun p => decide (p.ix = (m : Int) + 1)) := by
      intro l
      induction l with
      | nil => intro _; rfl
      | cons p r ihr =>
        intro hp
        rw [List.pairwise_cons] at hp
        have ihr := ihr hp.2
        simp only [List.filter_cons]
        by_cases h1 : p.ix ≤ (m : Int)
        · rw [decide_eq_true (p := p.ix ≤ ((m + 1 : Nat) : Int)) (by omega), decide_eq_true h1, decide_eq_false (p := p.ix = (m : Int) + 1) (by omega)]
          simp only [if_true, Bool.false_eq_true, if_false]
          rw [ihr]; rfl
        · have hr : (r.filter fun p => decide (p.ix ≤ (m : Int))) = [] := List.filter_eq_nil_iff.2 fun q hq => by
            have := hp.1 q hq
            simp; omega
          rw [decide_eq_false h1, hr]
          simp only [Bool.false_eq_true, if_false, List.nil_append]
          by_cases h2 : p.ix = (m : Int) + 1
          · rw [decide_eq_true (p := p.ix ≤ ((m + 1 : Nat) : Int)) (by omega), decide_eq_true h2]
            simp only [if_true]
            rw [ihr, hr, List.nil_append]
          · rw [decide_eq_false (p := p.ix ≤ ((m + 1 : Nat) : Int)) (by omega), decide_eq_false h2]
            simp only [Bool.false_eq_true, if_false]
            rw [ihr, hr, List.nil_append]
    rw [hsplit ps hg.2, List.map_append]
    congr 1
    by_cases hex : ∃ p ∈ ps, p.ix = (m : Int) + 1
    · obtain ⟨p, hp, hi⟩ := hex
      have h1 : (ps.filter fun p => decide (p.ix = (m : Int) + 1)) = [p] := by
        have hgen : ∀ (l : List GP), l.Pairwise (fun x y => x.ix < y.ix) → p ∈ l → (l.filter fun p => decide (p.ix = (m : Int) + 1)) = [p] := by
          intro l
          induction l with
          | nil => intro _ h; exact absurd h (by simp)
          | cons q r ihr =>
            intro hpw hq
            rw [List.pairwise_cons] at hpw
            rw [List.filter_cons]
            rcases List.mem_cons.1 hq with rfl | hq
            · rw [decide_eq_true hi, if_pos rfl, List.filter_eq_nil_iff.2 fun x hx => by
                have := hpw.1 x hx
                simp; omega]
            · have := hpw.1 p hq
              rw [decide_eq_false (p := q.ix = (m : Int) + 1) (by omega), if_neg (by simp)]
              exact ihr hpw.2 hq
        exact hgen ps hg.2 hp
      have h2 : entA (arrB ps) m = padE p := by
        have := entA_at ps (List.replicate 16384 0) p List.length_replicate hf hp (hg.2.imp fun h => by omega) (entA_zero (by omega))
        rw [show (p.ix - 1).toNat = m by omega] at this
        exact this
      rw [h1]
      simp only [List.filterMap_cons, List.filterMap_nil, useP, h2, pad_free (hg.1 p hp), Bool.false_eq_true, if_false, List.map_cons, List.map_nil]
      unfold gpP
      rw [hi]
    · have h1 : (ps.filter fun p => decide (p.ix = (m : Int) + 1)) = [] := List.filter_eq_nil_iff.2 fun q hq => by
        have : ¬ q.ix = (m : Int) + 1 := fun h => hex ⟨q, hq, h⟩
        simp [this]
      have h2 : entA (arrB ps) m = List.replicate 128 0 := entA_free hf (by omega) fun q hq h => hex ⟨q, hq, by have := (hg.1 q hq).ix; omega⟩
      have h3 : freeE (entA (arrB ps) m) = true := by rw [h2]; decide +kernel
      rw [h1]
      simp [useP, h3]
theorem used_laid {ps : List GP} {n : Nat} (hg : goodL n ps) : usedP (arrB ps) 128 = ps.map gpP := by
  rw [used_below hg 128 (by decide), List.filter_eq_self.2 fun p hp => by
    have := (hg.1 p hp).ix
    simp; omega]
theorem same_laid {gu : List UInt8} {ps : List GP} {n : Nat} (hgu : gOk gu = true) (hg : goodL n ps) (ho : ∀ p ∈ ps, p.ok) (hn : n ≤ 1000000) : sameT (gT (gB gu)) gu (ps.map gpP) ps = true := by
  refine sameT_t (sameG_gT hgu) (by simp) fun j p q hj h1 h2 => ?_
  rw [List.getElem?_map, h2] at h1
  obtain rfl : gpP q = p := by simpa using h1
  have hq := List.mem_of_getElem? h2
  exact gpP_same (hg.1 q hq) (ho q hq) hn
theorem ok_laid {ps : List GP} {n : Nat} (hg : goodL n ps) (ho : ∀ p ∈ ps, p.ok) (hn : n ≤ 1000000) : ∀ p ∈ ps.map gpP, p.ok := fun q hq => by
  obtain ⟨p, hp, rfl⟩ := List.mem_map.1 hq
  exact gpP_ok (hg.1 p hp) (ho p hp) hn
end Go.Proofs.YthcaejaaalkglaaGreatDoor.X
/- The protective record of a disk that was laid. -/
namespace Go.Proofs.YthcaejaaalkglaaGreatDoor.X
set_option linter.unusedVariables false
set_option linter.unusedSimpArgs false
open Go
theorem prot_es (n : Nat) : (protM n).flatMap MP.bytes ++ [85, 170] = [0, 0, 2, 0, 238, 255, 255, 255, 1, 0, 0, 0] ++ (leB 4 ((n : Int) - 1) ++ (List.replicate 48 0 ++ [85, 170])) := by
  simp only [protM, List.flatMap_cons, List.flatMap_nil, MP.bytes, List.append_assoc]
  rfl
theorem prot_of {bs : List UInt8} {n : Nat} (hn : 1 ≤ n ∧ n ≤ 1000000) (h : pcs bs 446 66 = [0, 0, 2, 0, 238, 255, 255, 255, 1, 0, 0, 0] ++ (leB 4 ((n : Int) - 1) ++ (List.replicate 48 0 ++ [85, 170]))) : protB bs ((n : Int) - 1) = true := by
  have P : ∀ p k, p + k ≤ 66 → pcs bs (446 + p) k = pcs ([0, 0, 2, 0, 238, 255, 255, 255, 1, 0, 0, 0] ++ (leB 4 ((n : Int) - 1) ++ (List.replicate 48 0 ++ [85, 170]))) p k := fun p k hk => by rw [← h, pcsA hk]
  have G : ∀ p, p < 66 → bs.getD (446 + p) 0 = ([0, 0, 2, 0, 238, 255, 255, 255, 1, 0, 0, 0] ++ (leB 4 ((n : Int) - 1) ++ (List.replicate 48 0 ++ [85, 170]))).getD p 0 := fun p hp => by rw [← h, pcs_getD hp]
  have h4 : (leB 4 ((n : Int) - 1)).length = 4 := leB_len 4 _
  have hz : ∀ j, j < 3 → pcs bs (462 + 16 * j) 16 = List.replicate 16 0 := fun j hj => by
    have := P (16 + 16 * j) 16 (by omega)
    rw [show 446 + (16 + 16 * j) = 462 + 16 * j by omega] at this
    rw [this]
    unfold pcs
    rw [List.drop_append, List.drop_of_length_le (by simp; omega), List.nil_append, List.drop_append, List.drop_of_length_le (by rw [h4]; simp; omega), List.nil_append, h4]
    rw [List.drop_append_of_le_length (by simp; omega), List.take_append_of_le_length (by simp; omega), List.drop_replicate, List.take_replicate]
    congr 1
    simp; omega
  have h1 : pcs bs 510 2 = [85, 170] := by
    have := P 64 2 (by decide)
    rw [this]
    have e := pcs_mid (xs := [0, 0, 2, 0, 238, 255, 255, 255, 1, 0, 0, 0] ++ (leB 4 ((n : Int) - 1) ++ List.replicate 48 0)) (ys := [85, 170]) (zs := []) (p := 64) (k := 2) (by simp [h4]) rfl
    simpa only [List.append_assoc, List.append_nil] using e
  have h2 : rec3 bs = true := rec3_t fun j hj => by
    unfold zAll
    rw [hz j (by omega)]
    decide
  have h3 : (bs.getD 446 0).toNat = 0 := by rw [G 0 (by decide)]; rfl
  have h5 : (bs.getD 450 0).toNat = 238 := by rw [G 4 (by decide)]; rfl
  have h6 : fld bs 454 4 = 1 := by
    unfold fld; rw [P 8 4 (by decide)]
    rfl
  have h7 : fld bs 458 4 = (n : Int) - 1 := by
    have e := pcs_mid (xs := [0, 0, 2, 0, 238, 255, 255, 255, 1, 0, 0, 0]) (ys := leB 4 ((n : Int) - 1)) (zs := List.replicate 48 0 ++ [85, 170]) (p := 12) (k := 4) rfl h4
    unfold fld; rw [P 12 4 (by decide), e]
    exact leV_leB 4 (by omega) (by have : (256 : Int) ^ 4 = 4294967296 := by decide
                                   omega)
  unfold protB
  rw [decide_eq_true h1, h2, decide_eq_true h3, decide_eq_true h5, decide_eq_true h6, decide_eq_true h7]
  rfl
theorem prot_laid {ds : List UInt8} {n : Nat} {gu : List UInt8} {ps : List GP} (hn : 80 ≤ n ∧ n ≤ 1000000) (hd : ds.length = n * 512) (hf : ∀ p ∈ ps, p.fits) : protB (pcs (encB ds n gu ps) 0 512) ((n : Int) - 1) = true := by
  obtain ⟨_, _, _, _, e5⟩ := enc_at (gu := gu) hn.1 hd hf (prot_len hd hn.1)
  rw [e5]
  refine prot_of (by omega) ?_
  rw [pcs0 (by decide), ← prot_es]
  unfold mbrB
  have hl : ((protM n).flatMap MP.bytes ++ [85, 170]).length = 66 := by rw [List.length_append, flat_len MP.bytes_len]; rfl
  exact pcs_in hl (by omega)
theorem laid_len {ds : List UInt8} {n : Nat} {gu : List UInt8} {ps : List GP} (hn : 80 ≤ n ∧ n ≤ 1000000) (hd : ds.length = n * 512) (hf : ∀ p ∈ ps, p.fits) : (encB ds n gu ps).length = n * 512 := by
  have hm := prot_len hd hn.1
  have ha : (arrB ps).length = 16384 := arrB_len hf
  have h1 : ∀ a o e c, (hdrB a o e (n : Int) (gB gu) c).length = 512 := fun a o e c => hdrB_len (gB_len gu)
  unfold encB
  have l1 : ∀ c, (pAt (mbrB ds (protM n)) 512 (hdrB 1 ((n : Int) - 1) 2 n (gB gu) c)).length = n * 512 := fun c => by rw [pAt_len (by rw [h1]; omega)]; omega
  have l2 : ∀ c, (pAt (pAt (mbrB ds (protM n)) 512 (hdrB 1 ((n : Int) - 1) 2 n (gB gu) c)) 1024 (arrB ps)).length = n * 512 := fun c => by rw [pAt_len (by rw [l1]; omega), l1]
  have l3 : ∀ c, (pAt (pAt (pAt (mbrB ds (protM n)) 512 (hdrB 1 ((n : Int) - 1) 2 n (gB gu) c)) 1024 (arrB ps)) ((n - 33) * 512) (arrB ps)).length = n * 512 := fun c => by rw [pAt_len (by rw [l2]; omega), l2]
  rw [pAt_len (by rw [l3, h1]; omega), l3]
end Go.Proofs.YthcaejaaalkglaaGreatDoor.X
/- Walks of functions, printed by a program of this claim. -/
namespace Go.Proofs.YthcaejaaalkglaaGreatDoor.X
set_option linter.unusedVariables false
set_option linter.unusedSimpArgs false
open Go Go.RowKit
namespace PF
theorem ca20 : callable Tryz.prog 20 = true := by kernel_rfl
theorem ca39 : callable Tryz.prog 39 = true := by kernel_rfl
end PF
open PF
set_option maxRecDepth 100000 in
set_option maxHeartbeats 1000000 in
theorem c_fits7 (w : World) (p : GP) : Calls Tryz.prog 39 #[.agg p.cells.toArray] w (Ret fun v w' => ∃ b, v = .bool b ∧ (b = true → p.fit) ∧ Fr [] w w') := by
 refine enter (fun ρ => ρ 2) Tryz.func39 rfl rfl rfl (res1 rfl) ?_
 have H := SH.nil w
 have s1 := size_str p.ty
 have s2 := size_str p.nm
 have s3 := size_str p.gu
 refine sq ?_
 refine rg ?_
 refine bx (v := .agg _) H rfl rfl rfl ?_
 clear H; intro b1 w1 hb1 H _
 refine asg (v := .bool _) rfl rfl ?_
 refine nl ?_
 refine then_n ?_
 refine sq ?_
 refine sq ?_
 refine rg ?_
 refine fa rfl fo54_4 rfl ?_
 refine ld H rfl sc9 rfl rfl ?_
 refine lnT rfl Tryz.underlying9 rfl ?_
 refine gtr rfl rfl rfl ?_
 refine nl ?_
 refine then_n ?_
 refine cd rfl (fun hc1 => ?_) (fun hc1 => ?_)
 ·refine sq ?_
  refine rg ?_
  refine asg (v := .bool _) rfl rfl ?_
  refine nl ?_
  refine then_n ?_
  refine rt ?_
  refine then_r ?_
  refine fin_r ?_
  exact ⟨false, rfl, fun h => by exact Bool.noConfusion h, H.fr⟩
 ·refine sk ?_
  refine then_n ?_
  refine sq ?_
  refine sq ?_
  refine rg ?_
  refine fa rfl fo54_5 rfl ?_
  refine ld H rfl sc9 rfl rfl ?_
  refine lnT rfl Tryz.underlying9 rfl ?_
  refine gtr rfl rfl rfl ?_
  refine nl ?_
  refine then_n ?_
  refine cd rfl (fun hc2 => ?_) (fun hc2 => ?_)
  ·refine sq ?_
   refine rg ?_
   refine asg (v := .bool _) rfl rfl ?_
   refine nl ?_
   refine then_n ?_
   refine rt ?_
   refine then_r ?_
   refine fin_r ?_
   exact ⟨false, rfl, fun h => by exact Bool.noConfusion h, H.fr⟩
  ·refine sk ?_
   refine then_n ?_
   refine sq ?_
   refine sq ?_
   refine rg ?_
   refine fa rfl fo54_6 rfl ?_
   refine ld H rfl sc9 rfl rfl ?_
   refine lnT rfl Tryz.underlying9 rfl ?_
   refine gtr rfl rfl rfl ?_
   refine nl ?_
   refine then_n ?_
   refine cd rfl (fun hc3 => ?_) (fun hc3 => ?_)
   ·refine sq ?_
    refine rg ?_
    refine asg (v := .bool _) rfl rfl ?_
    refine nl ?_
    refine then_n ?_
    refine rt ?_
    refine then_r ?_
    refine fin_r ?_
    exact ⟨false, rfl, fun h => by exact Bool.noConfusion h, H.fr⟩
   ·refine sk ?_
    refine then_n ?_
    refine sq ?_
    refine rg ?_
    refine asg (v := .bool _) rfl rfl ?_
    refine nl ?_
    refine then_n ?_
    refine rt ?_
    refine fin_r ?_
    exact ⟨true, rfl, fun _ => ⟨by omega, by omega, by omega⟩, H.fr⟩
set_option maxRecDepth 100000 in
set_option maxHeartbeats 1000000 in
theorem c_fits6 (w : World) (D : Option Addr) (m c : Nat) (ps : List GP) (hq : RG w D m c ps) : Calls Tryz.prog 20 #[.slice D m c] w (Ret fun v w' => ∃ b, v = .bool b ∧ (b = true → m ≤ 2147483647 ∧ ∀ p ∈ ps, p.fit) ∧ Fr [] w w') := by
 refine enter (fun ρ => ρ 2) Tryz.func20 rfl rfl rfl (res1 rfl) ?_
 have H := SH.nil w
 have hql := hq.len
 have hcap : c ≤ 9223372036854775807 := by have := hq.cap.2; unfold maxLen at this; omega
 have hcap1 := hq.cap.1
 refine sq ?_
 refine rg ?_
 refine asg (v := .bool _) rfl rfl ?_
 refine nl ?_
 refine then_n ?_
 refine sq ?_
 refine sq ?_
 refine rg ?_
 refine mv (v := .slice _ _ _) rfl rfl ?_
 refine lnS rfl Tryz.underlying22 rfl ?_
 refine gtr rfl rfl rfl ?_
 refine nl ?_
 refine then_n ?_
 refine cd rfl (fun hc1 => ?_) (fun hc1 => ?_)
 ·refine sq ?_
  refine rg ?_
  refine asg (v := .bool _) rfl rfl ?_
  refine nl ?_
  refine then_n ?_
  refine rt ?_
  refine then_r ?_
  refine fin_r ?_
  exact ⟨false, rfl, fun h => by exact Bool.noConfusion h, H.fr⟩
 ·refine sk ?_
  refine then_n ?_
  refine sq ?_
  refine sq ?_
  refine rg ?_
  refine mv (v := .slice _ _ _) rfl rfl ?_
  refine lnS rfl Tryz.underlying22 rfl ?_
  refine mv (v := .int .i64 _) rfl rfl ?_
  refine nl ?_
  refine then_n ?_
  refine bk ?_
  refine lpM (α := Nat) [2, 4, 10, 11, 12, 13, 14, 15, 16, 17] (fun i => [(10, .int .i64 (i : Int))]) (fun i w' => i ≤ m ∧ (∀ j p, j < i → ps[j]? = some p → p.fit) ∧ SH w [] w' []) (fun i => m - i) 0 ?_ (fCX (fN _)) ?_
  ·exact ⟨by omega, fun j p hj => by omega, H⟩
  ·rintro i ρx w1 ⟨hi, hs, H⟩
   refine sq ?_
   refine rg ?_
   refine lss rfl rfl rfl ?_
   refine nl ?_
   refine then_n ?_
   refine sq ?_
   refine cd rfl (fun hc2 => ?_) (fun hc2 => ?_)
   ·obtain ⟨p, hpi⟩ : ∃ p, ps[i]? = some p := ⟨_, List.getElem?_eq_getElem (by omega)⟩
    obtain ⟨ad, rfl⟩ := hq.some_of (by omega)
    refine sk ?_
    refine then_n ?_
    refine sq ?_
    refine bk ?_
    refine sq ?_
    refine rg ?_
    refine iBN (ad.add (i * 8)) rfl rfl Tryz.underlying22 sz54_8 (by omega) (by simp) rfl ?_
    refine lw (vs := p.cells) rfl ag54_8 rfl (fun j v h => H.fr.cell (hq.elem hpi j v h) (by simp)) rfl ?_
    refine al H ze54 rfl ?_
    clear H; intro b1 w2 hb1 H _
    refine sa (cs' := p.cells) H rfl rfl ag54_8 rfl rfl (by decide) (by omega) rfl ?_
    clear H; intro w35 H _
    refine nl ?_
    refine then_n ?_
    refine sq ?_
    refine rg ?_
    refine la (vs := p.cells) H rfl ag54_8 rfl rfl rfl ?_
    refine cl ca39 (c_fits7 _ p) rfl ?_
    rintro _ w3 ⟨g7, rfl, g7h, F⟩
    replace H := H.keep F; clear F
    refine unot rfl rfl ?_
    refine nl ?_
    refine then_n ?_
    refine cn rfl (fun hc3 => ?_) (fun hc3 => ?_)
    ·refine sq ?_
     refine rg ?_
     refine asg (v := .bool _) rfl rfl ?_
     refine nl ?_
     refine then_n ?_
     refine rt ?_
     refine in_r ?_
     refine then_r ?_
     refine loop_r ?_
     refine in_r ?_
     refine then_r ?_
     refine fin_r ?_
     exact ⟨false, rfl, fun h => by exact Bool.noConfusion h, H.fr⟩
    ·refine sk ?_
     refine in_n ?_
     refine then_n ?_
     refine rg ?_
     refine add rfl rfl (by first | exact w_i64 (by omega) | exact w_i64 (rng_i64 _) | rfl) rfl ?_
     refine mv (v := .int .i64 _) rfl rfl ?_
     refine nl ?_
     refine loop_n ?_
     exact ⟨i + 1, (by (try dsimp only); omega), ⟨by omega, all_next hs hpi (g7h (by simpa using hc3)), H.subX⟩, (fCX (fN _)), agX⟩
   ·refine ex ?_
    refine then_e ?_
    refine loop_e ?_
    refine in_hit rfl ?_
    refine then_n ?_
    refine sq ?_
    refine rg ?_
    refine asg (v := .bool _) rfl rfl ?_
    refine nl ?_
    refine then_n ?_
    refine rt ?_
    refine fin_r ?_
    obtain rfl : i = m := by omega
    exact ⟨true, rfl, fun _ => ⟨by omega, all_mem (by omega) hs⟩, H.fr⟩
set_option maxRecDepth 100000 in
set_option maxHeartbeats 1000000 in
theorem c_fits5 (w : World) (D : Option Addr) (m c : Nat) (sec : Int) (g : List UInt8) (pr rc : Bool) (ps : List GP) (hq : RG w D m c ps) : Calls Tryz.prog 8 #[.agg (gtCells D m c sec g pr rc).toArray] w (Ret fun v w' => ∃ b, v = .bool b ∧ (b = true → m ≤ 2147483647 ∧ g.length ≤ 2147483647 ∧ ∀ p ∈ ps, p.fit) ∧ Fr [] w w') := by
 refine enter (fun ρ => ρ 2) Tryz.func8 rfl rfl rfl (res1 rfl) ?_
 have H := SH.nil w
 have s1 := size_str g
 refine sq ?_
 refine rg ?_
 refine bx (v := .agg _) H rfl rfl rfl ?_
 clear H; intro b1 w1 hb1 H _
 refine asg (v := .bool _) rfl rfl ?_
 refine nl ?_
 refine then_n ?_
 refine sq ?_
 refine sq ?_
 refine rg ?_
 refine fa rfl fo24_0 rfl ?_
 refine ld H rfl sc22 rfl rfl ?_
 refine cl ca20 (c_fits6 _ D m c ps (hq.keep H.fr)) rfl ?_
 rintro _ w2 ⟨g6, rfl, g6h, F⟩
 replace H := H.keep F; clear F
 refine unot rfl rfl ?_
 refine nl ?_
 refine then_n ?_
 refine cn rfl (fun hc1 => ?_) (fun hc1 => ?_)
 ·refine sq ?_
  refine rg ?_
  refine asg (v := .bool _) rfl rfl ?_
  refine nl ?_
  refine then_n ?_
  refine rt ?_
  refine then_r ?_
  refine fin_r ?_
  exact ⟨false, rfl, fun h => by exact Bool.noConfusion h, H.fr⟩
 ·refine sk ?_
  refine then_n ?_
  refine sq ?_
  refine sq ?_
  refine rg ?_
  refine fa rfl fo24_2 rfl ?_
  refine ld H rfl sc9 rfl rfl ?_
  refine lnT rfl Tryz.underlying9 rfl ?_
  refine gtr rfl rfl rfl ?_
  refine nl ?_
  refine then_n ?_
  refine cd rfl (fun hc2 => ?_) (fun hc2 => ?_)
  ·refine sq ?_
   refine rg ?_
   refine asg (v := .bool _) rfl rfl ?_
   refine nl ?_
   refine then_n ?_
   refine rt ?_
   refine then_r ?_
   refine fin_r ?_
   exact ⟨false, rfl, fun h => by exact Bool.noConfusion h, H.fr⟩
  ·refine sk ?_
   refine then_n ?_
   refine sq ?_
   refine rg ?_
   refine asg (v := .bool _) rfl rfl ?_
   refine nl ?_
   refine then_n ?_
   refine rt ?_
   refine fin_r ?_
   have h6 := g6h (by simpa using hc1)
   exact ⟨true, rfl, fun _ => ⟨h6.1, by omega, h6.2⟩, H.fr⟩
end Go.Proofs.YthcaejaaalkglaaGreatDoor.X
