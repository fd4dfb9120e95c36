/- Walks of functions, printed by a program of this claim. -/
import Derived.Test.YtgmkjndmjnbahaaDoorA16
namespace Go.Proofs.YtgmkjndmjnbahaaDoor.X
set_option linter.unusedVariables false
set_option linter.unusedSimpArgs false
open Go Go.RowKit

namespace A17
theorem ca10 : callable Tryd.prog 10 = true := by kernel_rfl
theorem ca11 : callable Tryd.prog 11 = true := by kernel_rfl
theorem ca12 : callable Tryd.prog 12 = true := by kernel_rfl
theorem ca13 : callable Tryd.prog 13 = true := by kernel_rfl
theorem ca14 : callable Tryd.prog 14 = true := by kernel_rfl
theorem ca16 : callable Tryd.prog 16 = true := by kernel_rfl
theorem cc40 : Tryd.prog.concrete 40 = true := by kernel_rfl
theorem cc51 : Tryd.prog.concrete 51 = true := by kernel_rfl
theorem cc57 : Tryd.prog.concrete 57 = true := by kernel_rfl
theorem fo46_0 : fieldOff Tryd.prog 46 0 = some 0 := by kernel_rfl
theorem fo54_0 : fieldOff Tryd.prog 54 0 = some 0 := by kernel_rfl
theorem fo67_0 : fieldOff Tryd.prog 67 0 = some 0 := by kernel_rfl
theorem sc23 : scalarB Tryd.prog 23 = true := by kernel_rfl
theorem sc42 : scalarB Tryd.prog 42 = true := by kernel_rfl
theorem sc65 : scalarB Tryd.prog 65 = true := by kernel_rfl
theorem sz42_1 : sizeB Tryd.prog 42 1 = true := by kernel_rfl
theorem ze46 : zeroL Tryd.prog 46 = some [.slice none 0 0] := by kernel_rfl

end A17
open A17

theorem pt_cells {Q : MP} {a n : Nat} (u : List UInt8) (h1 : Q.st = (a : Int)) (h2 : Q.sz = (n : Int)) : ptCells Q u = [.int .i64 Q.ix, .bool Q.bt, .int .u8 Q.ty, .int .u32 (a : Int), .int .u32 (n : Int), .int .u8 Q.c0, .int .u8 Q.c1, .int .u8 Q.c2, .int .u8 Q.c3, .int .u8 Q.c4, .int .u8 Q.c5, .int .i64 512, .int .i64 512, .string (str u)] := by
  unfold ptCells MP.cells; rw [h1, h2]; rfl
theorem SH.pos {w0 w : World} {L : List Ent} (H : SH w0 [] w L) (hm : ∀ x ∈ L, x.m = true) (h : 0 < w0.heap.size) : 0 ∉ L.map Ent.b := fun h0 => by
  obtain ⟨x, hx, e⟩ := List.mem_map.1 h0
  have := (H.mu x hx (hm x hx)).resolve_left (by simp)
  omega
theorem pAt_appR {ds r es : List UInt8} {o : Nat} (h : o + es.length ≤ ds.length) : pAt (ds ++ r) o es = pAt ds o es ++ r := by
  unfold pAt
  rw [List.take_append_of_le_length (by omega), List.drop_append_of_le_length (by omega)]
  simp [List.append_assoc]
theorem cut_app {ds r : List UInt8} {o k : Nat} (h : o + k ≤ ds.length) : ((ds ++ r).drop o).take k = (ds.drop o).take k := by
  rw [List.drop_append_of_le_length (by omega), List.take_append_of_le_length (by rw [List.length_drop]; omega)]

set_option maxRecDepth 100000 in
set_option maxHeartbeats 1000000 in
theorem c_mbrOne (w : World) (bm bd c : Nat) (x1 x2 x3 : Value) (fr : Nat × Nat) (T : TypeId) (ds junk : List UInt8) (hm : w.heap[bm]? = some (.cells [.slice (some ⟨bd, 0, none⟩) ds.length c, x1, x2, x3].toArray 54 (0, 0))) (hd : w.heap[bd]? = some (.cells (Bs (ds ++ junk)).toArray T fr)) (hl : 512 ≤ ds.length ∧ ds.length ≤ 1000000000 ∧ ds.length ≤ c) (hf : flagsB (ds.take 512)) (hs : sigB (ds.take 512) = true) (k : Nat) (hk : k < 4) : Calls Tryd.prog 11 #[.pointer (some ⟨bm, 0, none⟩), .int .i64 512, .int .i64 (k : Int)] w (Ret fun v w' => ∃ q u, v = .tuple #[.pointer (some ⟨q, 0, none⟩), .bool true] ∧ w.heap.size ≤ q ∧ w'.heap[q]? = some (.cells (ptCells (mpAt (ds.take 512) (446 + 16 * k) (k + 1)) u).toArray 76 (0, 0)) ∧ Fr [] w w') := by
  refine enter (fun ρ => .tuple #[ρ 6, ρ 7]) Tryd.func11 rfl rfl rfl (res2 rfl) ?_
  have H := SH.ro2 hm hd
  refine sq ?_
  refine rg ?_
  refine asg (v := .pointer _) rfl rfl ?_
  refine asg (v := .bool _) rfl rfl ?_
  refine nl ?_
  refine then_n ?_
  refine sq ?_
  refine rg ?_
  refine mv (v := .pointer _) rfl rfl ?_
  refine mi (v := .pointer _) rfl cc40 rfl ?_
  refine mv (v := .int .i64 _) rfl rfl ?_
  refine mv (v := .int .i64 _) rfl rfl ?_
  refine cl ca16 (c_mbrRead _ bm bd c _ _ _ _ _ ds _ H.look H.look ⟨by omega, by omega, by omega⟩ hf) rfl ?_
  rintro _ w1 ⟨a0, e0, rfl, he0, F, hie, hM⟩
  obtain ⟨t, r, capP, jk, l, uu, hv, hll, hro, K⟩ := hM hs
  cases hv
  have he2 : e0 = .nilIface := by
    rcases he0 with h | ⟨_, _, h⟩
    · exact h
    · rw [h, hs] at hie; cases hie
  subst he2
  replace H := SH.back H.fr K; clear K F
  have hmx : maxLen = 9223372036854775807 := by decide
  obtain ⟨x, hx⟩ : ∃ x, l[k]? = some x := ⟨_, List.getElem?_eq_getElem (by omega)⟩
  obtain ⟨u, hxu⟩ := hro k x hx
  refine mv (v := .tuple _) rfl rfl ?_
  refine xt rfl rfl rfl ?_
  refine xt rfl rfl rfl ?_
  refine asg (v := .pointer _) rfl rfl ?_
  first | refine asg (v := .nilIface) rfl rfl ?_ | refine asg (v := .iface _ _) rfl rfl ?_ | refine asg rfl rfl ?_
  refine nl ?_
  refine then_n ?_
  refine sq ?_
  refine sq ?_
  refine rg ?_
  first | refine mv (v := .nilIface) rfl rfl ?_ | refine mv (v := .iface _ _) rfl rfl ?_ | refine mv rfl rfl ?_
  first | refine neqI1 rfl Tryd.underlying48 rfl ?_ | refine neqI0 rfl Tryd.underlying48 rfl ?_
  refine mv (v := .bool _) rfl rfl ?_
  first | refine spL (t := 20) (b := false) rfl ?_ | refine spF (t := 20) rfl rfl ?_   -- guard 1
  refine gy rfl ?_
  refine mv (v := .int .i64 _) rfl rfl ?_
  refine gy rfl ?_
  refine lss rfl rfl rfl ?_
  refine pkF (v := .bool _) rfl rfl rfl ?_
  refine mv (v := .bool _) rfl rfl ?_
  first | refine spL (t := 24) (b := false) rfl ?_ | refine spF (t := 24) rfl (by omega) ?_   -- guard 2
  refine gy rfl ?_
  refine mv (v := .int .i64 _) rfl rfl ?_
  refine gy rfl ?_
  refine mv (v := .pointer _) rfl rfl ?_
  refine gy rfl ?_
  first | refine nc rfl rfl ?_ | refine nci rfl rfl ?_
  refine gy rfl ?_
  refine fa rfl fo67_0 rfl ?_
  refine gy rfl ?_
  first | refine ld H rfl sc65 rfl rfl ?_ | refine lc rfl (by first | assumption | exact H.fr.cell (by assumption) (by simp)) sc65 rfl ?_ | refine ld H rfl sc65 (by assumption) rfl ?_
  refine gy rfl ?_
  refine lnS rfl Tryd.underlying65 rfl ?_
  refine gy rfl ?_
  refine geq rfl rfl rfl ?_
  refine pkF (v := .bool _) rfl rfl rfl ?_
  refine nl ?_
  refine then_n ?_
  first | refine cF rfl (by omega) ?_ | refine cbF rfl (by omega) ?_   -- test 1
  refine sk ?_
  refine then_n ?_
  refine sq ?_
  refine rg ?_
  refine mv (v := .pointer _) rfl rfl ?_
  first | refine nc rfl rfl ?_ | refine nci rfl rfl ?_
  refine fa rfl fo67_0 rfl ?_
  first | refine ld H rfl sc65 rfl rfl ?_ | refine lc rfl (by first | assumption | exact H.fr.cell (by assumption) (by simp)) sc65 rfl ?_ | refine ld H rfl sc65 (by assumption) rfl ?_
  refine mv (v := .int .i64 _) rfl rfl ?_
  first | refine ia rfl rfl Tryd.underlying65 sz42_1 (by omega) rfl ?_ | refine iA rfl rfl Tryd.underlying65 sz42_1 (by omega) rfl ?_
  refine ld (v := .pointer (some ⟨x.1, 0, none⟩)) H rfl sc42 (row_ptr' hx (by omega)) rfl ?_
  refine asg (v := .pointer _) rfl rfl ?_
  refine asg (v := .bool _) rfl rfl ?_
  refine nl ?_
  refine then_n ?_
  refine rt ?_
  refine fin_r ?_
  refine ⟨x.1, u, rfl, (H.mu ⟨x.1, _, true⟩ (.tail _ (.tail _ (ents_mem hx))) rfl).resolve_left (by simp), ?_, H.fr⟩
  have hpt := H.ptr (l := l) (T := 76) (fun e he => by simp [he]) hx
  rw [hxu] at hpt
  exact hpt

set_option maxRecDepth 100000 in
set_option maxHeartbeats 2000000 in
theorem c_contents (w : World) (A : Option Addr) (m c : Nat) (ds : List UInt8) (hR : RB w A m ds) (hl : 512 ≤ m ∧ m ≤ 100000000) (hf : flagsB (ds.take 512)) (hs : sigB (ds.take 512) = true) (k : Nat) (hk : k < 4) (a n : Nat) (hst : (mpAt (ds.take 512) (446 + 16 * k) (k + 1)).st = (a : Int)) (hsz : (mpAt (ds.take 512) (446 + 16 * k) (k + 1)).sz = (n : Int)) (hn : 1 ≤ n) (hin : (a + n) * 512 ≤ m) (ad : Addr) (hE : EofW 0 91 ad w) : Calls Tryd.prog 6 #[.slice A m c, .int .i64 512, .int .i64 (k : Int)] w (Ret fun v w' => v = .tuple #[.string (str ((ds.drop (a * 512)).take (512 * n))), .int .i64 ((512 * n : Nat) : Int), .bool true] ∧ Fr [] w w') := by
  refine enter (fun ρ => .tuple #[ρ 6, ρ 7, ρ 8]) Tryd.func6 rfl rfl rfl (res3 rfl) ?_
  have H := SH.nil w
  have hRl := hR.1
  have hltE := hE.lt
  refine sq ?_
  refine rg ?_
  refine asg (v := .string _) rfl rfl ?_
  refine asg (v := .int .i64 _) rfl rfl ?_
  refine asg (v := .bool _) rfl rfl ?_
  refine nl ?_
  refine then_n ?_
  refine sq ?_
  refine rg ?_
  refine mv (v := .slice _ _ _) rfl rfl ?_
  refine cvBS rfl (by exact hR) Tryd.underlying23 Tryd.underlying5 Tryd.underlying9 rfl ?_
  refine cl ca10 (c_memoryOf _ _ (by omega)) rfl ?_
  rintro _ w1 ⟨bm, bd, cm, rfl, hcm, K⟩
  replace H := H.join K (by simp); simp only [List.cons_append, List.nil_append] at H; clear K
  refine asg (v := .pointer _) rfl rfl ?_
  refine nl ?_
  refine then_n ?_
  refine sq ?_
  refine rg ?_
  refine mv (v := .pointer _) rfl rfl ?_
  refine mv (v := .int .i64 _) rfl rfl ?_
  refine mv (v := .int .i64 _) rfl rfl ?_
  refine cl ca11 (c_mbrOne _ bm bd cm _ _ _ _ _ ds _ H.look H.look ⟨by omega, by omega, by omega⟩ hf hs k hk) rfl ?_
  rintro _ w2 ⟨q, u, rfl, hq, hqo, F⟩
  generalize hQ : (mpAt (ds.take 512) (446 + 16 * k) (k + 1)) = Q at hst hsz hqo
  rw [pt_cells u hst hsz] at hqo
  replace H := H.new F hq hqo; clear F hqo
  refine mv (v := .tuple _) rfl rfl ?_
  refine xt rfl rfl rfl ?_
  refine xt rfl rfl rfl ?_
  refine asg (v := .pointer _) rfl rfl ?_
  refine asg (v := .bool _) rfl rfl ?_
  refine nl ?_
  refine then_n ?_
  refine sq ?_
  refine sq ?_
  refine rg ?_
  refine mv (v := .bool _) rfl rfl ?_
  refine unot rfl rfl ?_
  refine nl ?_
  refine then_n ?_
  first | refine cF rfl rfl ?_ | refine cbF rfl rfl ?_   -- test 1
  refine sk ?_
  refine then_n ?_
  refine sq ?_
  refine rg ?_
  refine al H ze46 rfl ?_
  clear H; intro b1 w3 hb1 H _
  refine nl ?_
  refine then_n ?_
  refine sq ?_
  refine rg ?_
  refine mv (v := .pointer _) rfl rfl ?_
  refine mv (v := .pointer _) rfl rfl ?_
  refine mi (v := .pointer _) rfl cc40 rfl ?_
  refine mi (v := .pointer _) rfl cc51 rfl ?_
  have HP := H.perm (List.perm_append_comm (l₁ := [_]) (l₂ := [_, _, _]))
  simp only [List.cons_append, List.nil_append] at HP
  have O0 : OR 5 1 w [] _ _ none 0 0 (Bs []) := OR.nil HP
  refine cl ca12 (c_readC _ _ q a n b1 bm bd ds.length cm _ _ _ _ _ _ _ _ _ _ _ _ _ _ _ _ (OR.base (A := []) O0) (by simp) hcm (by omega) hn (by omega) ad (hE.keep H.fr) (by rw [SD, blkOf, List.append_nil]; exact O0.sh.pos (by simp) hltE)) rfl ?_
  rintro _ w4 ⟨D2, c2, rfl, K⟩
  replace O0 := OR.call (A := []) O0 (by simp) K (by simp); clear K H HP
  rw [cut_app (by omega)] at O0
  obtain ⟨ad9, rfl⟩ := O0.some_of (by omega)
  obtain ⟨b9, cur9, rfl, hnc9, hcm9, hcl9, htk9, H⟩ := O0.blk
  obtain ⟨junk, hj⟩ := take_split htk9
  have hcl : ((ds.drop (a * 512)).take (512 * n)).length = 512 * n := by rw [List.length_take, List.length_drop]; omega
  subst hj; clear htk9 O0
  simp only [List.nil_append] at H
  refine mv (v := .tuple _) rfl rfl ?_
  refine xt rfl rfl rfl ?_
  refine xt rfl rfl rfl ?_
  refine asg (v := .int .i64 _) rfl rfl ?_
  first | refine asg (v := .nilIface) rfl rfl ?_ | refine asg (v := .iface _ _) rfl rfl ?_ | refine asg rfl rfl ?_
  refine nl ?_
  refine then_n ?_
  refine sq ?_
  refine dr (by kernel_rfl) ?_   -- region 7
  have H := H.drew
  refine hold (fun _ => True) [] ?_
  refine tk (i := 0) rfl (by kernel_rfl) rfl trivial (fun _ _ => r_fa rfl fo46_0) ?_
  refine tk (i := 3) rfl (by kernel_rfl) rfl trivial (fun _ _ => r_mv (v := .int .i64 _) rfl) ?_
  first | refine tk (i := 4) rfl (by kernel_rfl) rfl trivial (fun _ _ => r_mv (v := .nilIface) rfl) ?_ | refine tk (i := 4) rfl (by kernel_rfl) rfl trivial (fun _ _ => r_mv (v := .iface _ _) rfl) ?_ | refine tk (i := 4) rfl (by kernel_rfl) rfl trivial (fun _ _ => r_mv rfl) ?_
  first | refine tk (i := 5) rfl (by kernel_rfl) rfl trivial (fun _ _ => r_eqlI1 rfl Tryd.underlying48) ?_ | refine tk (i := 5) rfl (by kernel_rfl) rfl trivial (fun _ _ => r_eqlI0 rfl Tryd.underlying48) ?_
  refine unfree ?_
  refine holdH H [] ?_
  first | refine tk (i := 1) rfl (by kernel_rfl) rfl H (fun w' H => r_ld H rfl sc23 rfl) ?_ | refine tk (i := 1) rfl (by kernel_rfl) rfl H (fun w' H => r_lc rfl (by first | assumption | exact H.fr.cell (by assumption) (by simp)) sc23) ?_ | refine tk (i := 1) rfl (by kernel_rfl) rfl H (fun w' H => r_ld H rfl sc23 (by assumption)) ?_
  refine tk (i := 2) rfl (by kernel_rfl) rfl H (fun w' H => r_cvBS rfl (by exact RB.bj H hcl) Tryd.underlying23 Tryd.underlying5 Tryd.underlying9) ?_
  refine tk (i := 6) rfl (by kernel_rfl) rfl H (fun w' H => r_asg (v := .string _) rfl) ?_
  refine tk (i := 7) rfl (by kernel_rfl) rfl H (fun w' H => r_asg (v := .int .i64 _) rfl) ?_
  refine tk (i := 8) rfl (by kernel_rfl) rfl H (fun w' H => r_asg (v := .bool _) rfl) ?_
  refine da (by kernel_rfl) ?_
  refine then_n ?_
  refine rt ?_
  refine fin_r ?_
  exact ⟨rfl, H.fr⟩

set_option maxRecDepth 100000 in
set_option maxHeartbeats 2000000 in
theorem c_fill (w : World) (A : Option Addr) (m c : Nat) (ds : List UInt8) (hR : RB w A m ds) (hl : 512 ≤ m ∧ m ≤ 100000000) (hf : flagsB (ds.take 512)) (hs : sigB (ds.take 512) = true) (k : Nat) (hk : k < 4) (a n : Nat) (hst : (mpAt (ds.take 512) (446 + 16 * k) (k + 1)).st = (a : Int)) (hsz : (mpAt (ds.take 512) (446 + 16 * k) (k + 1)).sz = (n : Int)) (hn : 1 ≤ n) (hin : (a + n) * 512 ≤ m) (ad : Addr) (hE : EofW 0 91 ad w) (s : List UInt8) (hsl : s.length = 512 * n) : Calls Tryd.prog 7 #[.slice A m c, .int .i64 512, .int .i64 (k : Int), .string (str s)] w (Ret fun v w' => ∃ b cap junk T fr, v = .tuple #[.slice (some ⟨b, 0, none⟩) m cap, .int .u64 ((512 * n : Nat) : Int), .bool true] ∧ w.heap.size ≤ b ∧ w'.heap[b]? = some (.cells (Bs (pAt ds (a * 512) s) ++ junk : List Value).toArray T fr) ∧ Fr [] w w') := by
  refine enter (fun ρ => .tuple #[ρ 8, ρ 9, ρ 10]) Tryd.func7 rfl rfl rfl (res3 rfl) ?_
  have H := SH.nil w
  have hRl := hR.1
  have hltE := hE.lt
  refine sq ?_
  refine rg ?_
  refine asg (v := .slice _ _ _) rfl rfl ?_
  refine asg (v := .int .u64 _) rfl rfl ?_
  refine asg (v := .bool _) rfl rfl ?_
  refine nl ?_
  refine then_n ?_
  refine sq ?_
  refine rg ?_
  refine mv (v := .slice _ _ _) rfl rfl ?_
  refine cvBS rfl (by exact hR) Tryd.underlying23 Tryd.underlying5 Tryd.underlying9 rfl ?_
  refine cl ca10 (c_memoryOf _ _ (by omega)) rfl ?_
  rintro _ w1 ⟨bm, bd, cm, rfl, hcm, K⟩
  replace H := H.join K (by simp); simp only [List.cons_append, List.nil_append] at H; clear K
  refine asg (v := .pointer _) rfl rfl ?_
  refine nl ?_
  refine then_n ?_
  refine sq ?_
  refine rg ?_
  refine mv (v := .pointer _) rfl rfl ?_
  refine mv (v := .int .i64 _) rfl rfl ?_
  refine mv (v := .int .i64 _) rfl rfl ?_
  refine cl ca11 (c_mbrOne _ bm bd cm _ _ _ _ _ ds _ H.look H.look ⟨by omega, by omega, by omega⟩ hf hs k hk) rfl ?_
  rintro _ w2 ⟨q, u, rfl, hq, hqo, F⟩
  generalize hQ : (mpAt (ds.take 512) (446 + 16 * k) (k + 1)) = Q at hst hsz hqo
  rw [pt_cells u hst hsz] at hqo
  replace H := H.new F hq hqo; clear F hqo
  refine mv (v := .tuple _) rfl rfl ?_
  refine xt rfl rfl rfl ?_
  refine xt rfl rfl rfl ?_
  refine asg (v := .pointer _) rfl rfl ?_
  refine asg (v := .bool _) rfl rfl ?_
  refine nl ?_
  refine then_n ?_
  refine sq ?_
  refine sq ?_
  refine rg ?_
  refine mv (v := .bool _) rfl rfl ?_
  refine unot rfl rfl ?_
  refine nl ?_
  refine then_n ?_
  first | refine cF rfl rfl ?_ | refine cbF rfl rfl ?_   -- test 1
  refine sk ?_
  refine then_n ?_
  refine sq ?_
  refine rg ?_
  refine mv (v := .pointer _) rfl rfl ?_
  refine mv (v := .pointer _) rfl rfl ?_
  refine mi (v := .pointer _) rfl cc40 rfl ?_
  refine mv (v := .string _) rfl rfl ?_
  refine cl ca14 (c_newRd _ s) rfl ?_
  rintro _ w3 ⟨r, rfl, hr, hro, F⟩
  replace H := H.new F hr hro; clear F hro
  refine mi (v := .pointer _) rfl cc57 rfl ?_
  have HP := H.perm (List.perm_append_comm (l₁ := [_]) (l₂ := [_, _, _]))
  simp only [List.cons_append, List.nil_append] at HP
  refine cl ca13 (c_writeC _ _ q a n r bm bd ds.length cm _ _ _ _ _ _ _ _ _ _ _ _ _ _ _ s (SH.base (A := []) HP) (by simp) hcm (by omega) hsl (by omega) ad (hE.keep H.fr) ⟨HP.pos (by simp) hltE, by have h9 : w.heap.size ≤ r := (H.mu _ (.head _) rfl).resolve_left (by simp); omega⟩) rfl ?_
  rintro _ w4 ⟨rfl, K⟩
  replace H := SH.call (A := []) HP K (by simp) (by simp); clear K HP
  simp only [List.nil_append] at H
  rw [pAt_appR (by omega)] at H
  have hpl : (pAt ds (a * 512) s).length = m := by rw [pAt_len (by omega), hRl]
  refine mv (v := .tuple _) rfl rfl ?_
  refine xt rfl rfl rfl ?_
  refine xt rfl rfl rfl ?_
  refine asg (v := .int .u64 _) rfl rfl ?_
  first | refine asg (v := .nilIface) rfl rfl ?_ | refine asg (v := .iface _ _) rfl rfl ?_ | refine asg rfl rfl ?_
  refine nl ?_
  refine then_n ?_
  refine sq ?_
  refine dr (by kernel_rfl) ?_   -- region 6
  have H := H.drew
  refine hold (fun _ => True) [] ?_
  refine tk (i := 0) rfl (by kernel_rfl) rfl trivial (fun _ _ => r_mv (v := .pointer _) rfl) ?_
  first | refine tk (i := 1) rfl (by kernel_rfl) rfl trivial (fun _ _ => r_nc rfl) ?_ | refine tk (i := 1) rfl (by kernel_rfl) rfl trivial (fun _ _ => r_nci rfl) ?_
  refine tk (i := 2) rfl (by kernel_rfl) rfl trivial (fun _ _ => r_fa rfl fo54_0) ?_
  refine tk (i := 4) rfl (by kernel_rfl) rfl trivial (fun _ _ => r_mv (v := .int .u64 _) rfl) ?_
  first | refine tk (i := 5) rfl (by kernel_rfl) rfl trivial (fun _ _ => r_mv (v := .nilIface) rfl) ?_ | refine tk (i := 5) rfl (by kernel_rfl) rfl trivial (fun _ _ => r_mv (v := .iface _ _) rfl) ?_ | refine tk (i := 5) rfl (by kernel_rfl) rfl trivial (fun _ _ => r_mv rfl) ?_
  first | refine tk (i := 6) rfl (by kernel_rfl) rfl trivial (fun _ _ => r_eqlI1 rfl Tryd.underlying48) ?_ | refine tk (i := 6) rfl (by kernel_rfl) rfl trivial (fun _ _ => r_eqlI0 rfl Tryd.underlying48) ?_
  refine unfree ?_
  refine holdH H [] ?_
  first | refine tk (i := 3) rfl (by kernel_rfl) rfl H (fun w' H => r_ld H rfl sc23 rfl) ?_ | refine tk (i := 3) rfl (by kernel_rfl) rfl H (fun w' H => r_lc rfl (by first | assumption | exact H.fr.cell (by assumption) (by simp)) sc23) ?_ | refine tk (i := 3) rfl (by kernel_rfl) rfl H (fun w' H => r_ld H rfl sc23 (by assumption)) ?_
  refine tk (i := 7) rfl (by kernel_rfl) rfl H (fun w' H => r_asg (v := .slice _ _ _) rfl) ?_
  refine tk (i := 8) rfl (by kernel_rfl) rfl H (fun w' H => r_asg (v := .int .u64 _) rfl) ?_
  refine tk (i := 9) rfl (by kernel_rfl) rfl H (fun w' H => r_asg (v := .bool _) rfl) ?_
  refine da (by kernel_rfl) ?_
  refine then_n ?_
  refine rt ?_
  refine fin_r ?_
  have hge : w.heap.size ≤ bd := (H.mu _ (.tail _ (.tail _ (.head _))) rfl).resolve_left (by simp)
  exact ⟨bd, cm, Bs (List.replicate (cm - ds.length) 0), _, _, by subst hRl; rfl, hge, by rw [Bs_app]; exact H.look, H.fr⟩

end Go.Proofs.YtgmkjndmjnbahaaDoor.X
