/- Walks of functions, printed by a program of this claim. -/
import Derived.Test.YtgmkjndmjnbahaaDoorA13
import Derived.Test.YtgmkjndmjnbahaaDoorCallG
namespace Go.Proofs.YtgmkjndmjnbahaaDoor.X
set_option linter.unusedVariables false
set_option linter.unusedSimpArgs false
open Go Go.RowKit

namespace A14
theorem bo87 : buildOK Tryd.prog 87 = true := by kernel_rfl
theorem fo46_0 : fieldOff Tryd.prog 46 0 = some 0 := by kernel_rfl
theorem fo76_11 : fieldOff Tryd.prog 76 11 = some 11 := by kernel_rfl
theorem fo76_12 : fieldOff Tryd.prog 76 12 = some 12 := by kernel_rfl
theorem fo87_0 : fieldOff Tryd.prog 87 0 = some 0 := by kernel_rfl
theorem fo87_1 : fieldOff Tryd.prog 87 1 = some 1 := by kernel_rfl
theorem fo87_2 : fieldOff Tryd.prog 87 2 = some 2 := by kernel_rfl
theorem pl87_0 : placeOf Tryd.prog 87 0 = some (0, 1) := by kernel_rfl
theorem pl87_1 : placeOf Tryd.prog 87 1 = some (1, 1) := by kernel_rfl
theorem pl87_2 : placeOf Tryd.prog 87 2 = some (2, 1) := by kernel_rfl
theorem ri5 : rowInfo Tryd.prog 5 = some ([.int .u8 0], 1) := by kernel_rfl
theorem sc2 : scalarB Tryd.prog 2 = true := by kernel_rfl
theorem sc23 : scalarB Tryd.prog 23 = true := by kernel_rfl
theorem sc3 : scalarB Tryd.prog 3 = true := by kernel_rfl
theorem sc48 : scalarB Tryd.prog 48 = true := by kernel_rfl
theorem sc9 : scalarB Tryd.prog 9 = true := by kernel_rfl
theorem sz5_1 : sizeB Tryd.prog 5 1 = true := by kernel_rfl
theorem ze87 : zeroL Tryd.prog 87 = some [.string ⟨#[]⟩, .int .i64 0, .int .i64 0] := by kernel_rfl

end A14
open A14

set_option maxRecDepth 100000 in
set_option maxHeartbeats 1000000 in
theorem c_secs (w : World) (p a n : Nat) (x0 x1 x2 y0 y1 y2 y3 y4 y5 z : Value) (hp : w.heap[p]? = some (.cells ([x0, x1, x2, .int .u32 (a : Int), .int .u32 (n : Int), y0, y1, y2, y3, y4, y5, .int .i64 512, .int .i64 512, z] : List Value).toArray 76 (0, 0))) : Calls Tryd.prog 17 #[.pointer (some ⟨p, 0, none⟩)] w (Ret fun v w' => v = .tuple #[.int .i64 512, .int .i64 512] ∧ Fr [] w w') := by
  refine enter (fun ρ => .tuple #[ρ 2, ρ 3]) Tryd.func17 rfl rfl rfl (res2 rfl) ?_
  have H := SH.ro1 hp
  refine sq ?_
  refine rg ?_
  refine asg (v := .int .i64 _) rfl rfl ?_
  refine asg (v := .int .i64 _) rfl rfl ?_
  refine nl ?_
  refine then_n ?_
  refine sq ?_
  refine rg ?_
  refine mv (v := .pointer _) rfl rfl ?_
  first | refine nc rfl rfl ?_ | refine nci rfl rfl ?_
  refine fa rfl fo76_12 rfl ?_
  first | refine ld H rfl sc3 rfl rfl ?_ | refine lc rfl (by first | assumption | exact H.fr.cell (by assumption) (by simp)) sc3 rfl ?_ | refine ld H rfl sc3 (by assumption) rfl ?_
  refine asg (v := .int .i64 _) rfl rfl ?_
  refine nl ?_
  refine then_n ?_
  refine sq ?_
  refine sq ?_
  refine rg ?_
  refine mv (v := .int .i64 _) rfl rfl ?_
  refine eql rfl rfl rfl ?_
  refine nl ?_
  refine then_n ?_
  first | refine cF rfl (by decide) ?_ | refine cbF rfl (by decide) ?_   -- test 1
  refine sk ?_
  refine then_n ?_
  refine sq ?_
  refine rg ?_
  refine mv (v := .pointer _) rfl rfl ?_
  first | refine nc rfl rfl ?_ | refine nci rfl rfl ?_
  refine fa rfl fo76_11 rfl ?_
  first | refine ld H rfl sc3 rfl rfl ?_ | refine lc rfl (by first | assumption | exact H.fr.cell (by assumption) (by simp)) sc3 rfl ?_ | refine ld H rfl sc3 (by assumption) rfl ?_
  refine asg (v := .int .i64 _) rfl rfl ?_
  refine nl ?_
  refine then_n ?_
  refine sq ?_
  refine sq ?_
  refine rg ?_
  refine mv (v := .int .i64 _) rfl rfl ?_
  refine eql rfl rfl rfl ?_
  refine nl ?_
  refine then_n ?_
  first | refine cF rfl (by decide) ?_ | refine cbF rfl (by decide) ?_   -- test 2
  refine sk ?_
  refine then_n ?_
  refine sq ?_
  refine rg ?_
  refine mv (v := .int .i64 _) rfl rfl ?_
  refine mv (v := .int .i64 _) rfl rfl ?_
  refine asg (v := .int .i64 _) rfl rfl ?_
  refine asg (v := .int .i64 _) rfl rfl ?_
  refine nl ?_
  refine then_n ?_
  refine rt ?_
  refine fin_r ?_
  exact ⟨rfl, H.fr⟩

set_option maxRecDepth 100000 in
set_option maxHeartbeats 1000000 in
theorem c_gatW (w : World) (S : List Nat) (g : Nat) (D : Option Addr) (k c : Nat) (xs ys : List UInt8) (O0 : OR 5 1 w S w [⟨g, .cells ([.slice D k c] : List Value).toArray 46 (0, 0), true⟩] D k c (Bs (xs))) (q m c2 : Nat) (hR : RB w (some ⟨q, 0, none⟩) m ys) (hk : k ≤ 1000000000 ∧ m ≤ 1000000000) : Calls Tryd.prog 50 #[.pointer (some ⟨g, 0, none⟩), .slice (some ⟨q, 0, none⟩) m c2] w (Ret fun v w' => ∃ D2 c2, v = .tuple #[.int .i64 (m : Int), .nilIface] ∧ OR 5 1 w S w' [⟨g, .cells ([.slice D2 (k + m) c2] : List Value).toArray 46 (0, 0), true⟩] D2 (k + m) c2 (Bs (xs ++ ys))) := by
  refine enter (fun ρ => .tuple #[ρ 4, ρ 5]) Tryd.func50 rfl rfl rfl (res2 rfl) ?_
  have O := O0
  have H := O.sh
  refine sq ?_
  refine rg ?_
  refine asg (v := .int .i64 _) rfl rfl ?_
  refine asg (v := .nilIface) rfl rfl ?_
  refine nl ?_
  refine then_n ?_
  refine sq ?_
  refine rg ?_
  refine mv (v := .pointer _) rfl rfl ?_
  refine mv (v := .pointer _) rfl rfl ?_
  first | refine nc rfl rfl ?_ | refine nci rfl rfl ?_
  refine fa rfl fo46_0 rfl ?_
  first | refine ld H rfl sc23 rfl rfl ?_ | refine lc rfl (by first | assumption | exact H.fr.cell (by assumption) (by simp)) sc23 rfl ?_ | refine ld H rfl sc23 (by assumption) rfl ?_
  refine mv (v := .slice _ _ _) rfl rfl ?_
  refine apB O rfl rfl hR Tryd.underlying23 ri5 (by omega) rfl ?_
  clear O H; intro D9 cp9 w1 O
  have H := O.sh
  first | refine nc rfl rfl ?_ | refine nci rfl rfl ?_
  refine fa rfl fo46_0 rfl ?_
  refine st (v := .slice _ _ _) H rfl rfl sc23 rfl (by show 0 + 0 < 1; decide) (by omega) ?_
  intro w95 H1 F; replace O := O.put F H1.look; clear H H1 F; have H := O.sh
  refine nl ?_
  refine then_n ?_
  refine sq ?_
  refine rg ?_
  refine mv (v := .slice _ _ _) rfl rfl ?_
  refine lnS rfl Tryd.underlying23 rfl ?_
  refine asg (v := .int .i64 _) rfl rfl ?_
  refine asg (v := .nilIface) rfl rfl ?_
  refine nl ?_
  refine then_n ?_
  refine rt ?_
  refine fin_r ?_
  exact ⟨D9, cp9, rfl, O⟩

set_option maxRecDepth 100000 in
set_option maxHeartbeats 1000000 in
theorem c_newRd (w : World) (s : List UInt8) : Calls Tryd.prog 14 #[.string (str s)] w (Ret fun v w' => ∃ r, v = .pointer (some ⟨r, 0, none⟩) ∧ w.heap.size ≤ r ∧ w'.heap[r]? = some (.cells ([.string (str s), .int .i64 (0), .int .i64 (-1)] : List Value).toArray 87 (0, 0)) ∧ Fr [] w w') := by
  refine enter (fun ρ => ρ 2) Tryd.func14 rfl rfl rfl (res1 rfl) ?_
  have H := SH.nil w
  refine sq ?_
  refine rg ?_
  refine asg (v := .pointer _) rfl rfl ?_
  refine nl ?_
  refine then_n ?_
  refine sq ?_
  refine rg ?_
  refine mv (v := .string _) rfl rfl ?_
  refine bu (out := ?o1) ze87 bo87 ?f1 rfl ?_
  case f1 =>
    refine FL.one (v := .string _) rfl pl87_0 rfl (by first | decide | simp) ?_
    refine FL.one (v := .int .i64 _) rfl pl87_1 rfl (by first | decide | simp) ?_
    refine FL.one (v := .int .i64 _) rfl pl87_2 rfl (by first | decide | simp) ?_
    exact FL.nil
  refine bx (v := .agg _) H rfl rfl rfl ?_
  clear H; intro b1 w1 hb1 H _
  refine asg (v := .pointer _) rfl rfl ?_
  refine nl ?_
  refine then_n ?_
  refine rt ?_
  refine fin_r ?_
  exact ⟨_, rfl, H.ge, H.look, H.fr⟩

set_option maxRecDepth 100000 in
set_option maxHeartbeats 1000000 in
theorem c_rdMore (w : World) (b r k c2 : Nat) (T : TypeId) (s bf : List UInt8) (hb : w.heap[b]? = some (.cells (Bs bf).toArray T (0, 0))) (hr : w.heap[r]? = some (.cells ([.string (str s), .int .i64 ((k : Int)), .int .i64 (-1)] : List Value).toArray 87 (0, 0))) (hne : b ≠ r) (hbf : bf.length = 512) (hs : s.length ≤ 1000000000) (hk2 : k ≤ 1000000000) (h0 : 0 < b ∧ 0 < r) (hk : k + 512 ≤ s.length) : Calls Tryd.prog 52 #[.pointer (some ⟨r, 0, none⟩), .slice (some ⟨b, 0, none⟩) 512 c2] w (Ret fun v w' => v = .tuple #[.int .i64 512, .nilIface] ∧ SH w [b, r] w' [⟨b, .cells (Bs ((s.drop k).take 512)).toArray T (0, 0), true⟩, ⟨r, .cells ([.string (str s), .int .i64 (((k + 512 : Nat) : Int)), .int .i64 (-1)] : List Value).toArray 87 (0, 0), true⟩]) := by
  refine enter (fun ρ => .tuple #[ρ 4, ρ 5]) Tryd.func52 rfl rfl rfl (res2 rfl) ?_
  have H : SH w [b, r] w [⟨b, .cells (Bs (bf)).toArray T (0, 0), true⟩, ⟨r, .cells ([.string (str s), .int .i64 ((k : Int)), .int .i64 (-1)] : List Value).toArray 87 (0, 0), true⟩] := SH.init [b, r] _ (by simp [hb, hr]) (by simp [hne]) (by simp)
  have hsz := size_str s
  refine sq ?_
  refine rg ?_
  refine asg (v := .int .i64 _) rfl rfl ?_
  refine asg (v := .nilIface) rfl rfl ?_
  refine nl ?_
  refine then_n ?_
  refine sq ?_
  refine sq ?_
  refine dr (by kernel_rfl) ?_   -- region 1
  have H := H.drew
  refine hold (fun _ => True) [] ?_
  refine tk (i := 0) rfl (by kernel_rfl) rfl trivial (fun _ _ => r_mv (v := .pointer _) rfl) ?_
  first | refine tk (i := 1) rfl (by kernel_rfl) rfl trivial (fun _ _ => r_nc rfl) ?_ | refine tk (i := 1) rfl (by kernel_rfl) rfl trivial (fun _ _ => r_nci rfl) ?_
  refine tk (i := 2) rfl (by kernel_rfl) rfl trivial (fun _ _ => r_fa rfl fo87_1) ?_
  refine tk (i := 4) rfl (by kernel_rfl) rfl trivial (fun _ _ => r_mv (v := .pointer _) rfl) ?_
  first | refine tk (i := 5) rfl (by kernel_rfl) rfl trivial (fun _ _ => r_nc rfl) ?_ | refine tk (i := 5) rfl (by kernel_rfl) rfl trivial (fun _ _ => r_nci rfl) ?_
  refine tk (i := 6) rfl (by kernel_rfl) rfl trivial (fun _ _ => r_fa rfl fo87_0) ?_
  refine unfree ?_
  refine holdH H [] ?_
  first | refine tk (i := 3) rfl (by kernel_rfl) rfl H (fun w' H => r_ld H rfl sc2 rfl) ?_ | refine tk (i := 3) rfl (by kernel_rfl) rfl H (fun w' H => r_lc rfl (by first | assumption | exact H.fr.cell (by assumption) (by simp)) sc2) ?_ | refine tk (i := 3) rfl (by kernel_rfl) rfl H (fun w' H => r_ld H rfl sc2 (by assumption)) ?_
  first | refine tk (i := 7) rfl (by kernel_rfl) rfl H (fun w' H => r_ld H rfl sc9 rfl) ?_ | refine tk (i := 7) rfl (by kernel_rfl) rfl H (fun w' H => r_lc rfl (by first | assumption | exact H.fr.cell (by assumption) (by simp)) sc9) ?_ | refine tk (i := 7) rfl (by kernel_rfl) rfl H (fun w' H => r_ld H rfl sc9 (by assumption)) ?_
  refine tk (i := 8) rfl (by kernel_rfl) rfl H (fun w' H => r_lnT rfl Tryd.underlying9) ?_
  refine tk (i := 9) rfl (by kernel_rfl) rfl H (fun w' H => r_geq rfl rfl) ?_
  refine da (by kernel_rfl) ?_
  refine then_n ?_
  first | refine cF rfl (by omega) ?_ | refine cbF rfl (by omega) ?_   -- test 1
  refine sk ?_
  refine then_n ?_
  refine sq ?_
  refine rg ?_
  refine mv (v := .pointer _) rfl rfl ?_
  first | refine nc rfl rfl ?_ | refine nci rfl rfl ?_
  refine fa rfl fo87_2 rfl ?_
  refine st (v := .int .i64 _) H rfl rfl sc3 rfl (by first | decide | (simp only [List.length_set, List.length_cons, List.length_nil, List.length_replicate, List.length_append, Bs_length]; omega) | omega) (by omega) ?_
  clear H; intro w1 H _
  refine nl ?_
  refine then_n ?_
  refine sq ?_
  refine dr (by kernel_rfl) ?_   -- region 4
  have H := H.drew
  refine hold (fun _ => True) [] ?_
  refine tk (i := 0) rfl (by kernel_rfl) rfl trivial (fun _ _ => r_mv (v := .slice _ _ _) rfl) ?_
  refine tk (i := 1) rfl (by kernel_rfl) rfl trivial (fun _ _ => r_mv (v := .pointer _) rfl) ?_
  first | refine tk (i := 2) rfl (by kernel_rfl) rfl trivial (fun _ _ => r_nc rfl) ?_ | refine tk (i := 2) rfl (by kernel_rfl) rfl trivial (fun _ _ => r_nci rfl) ?_
  refine tk (i := 3) rfl (by kernel_rfl) rfl trivial (fun _ _ => r_fa rfl fo87_0) ?_
  refine tk (i := 5) rfl (by kernel_rfl) rfl trivial (fun _ _ => r_mv (v := .pointer _) rfl) ?_
  first | refine tk (i := 6) rfl (by kernel_rfl) rfl trivial (fun _ _ => r_nc rfl) ?_ | refine tk (i := 6) rfl (by kernel_rfl) rfl trivial (fun _ _ => r_nci rfl) ?_
  refine tk (i := 7) rfl (by kernel_rfl) rfl trivial (fun _ _ => r_fa rfl fo87_1) ?_
  refine unfree ?_
  refine twoN (i := 4) (j := 8) (by kernel_rfl) rfl rfl rfl rfl ?_ ?_
  · first | refine ld H rfl sc9 rfl rfl ?_ | refine lc rfl (by first | assumption | exact H.fr.cell (by assumption) (by simp)) sc9 rfl ?_ | refine ld H rfl sc9 (by assumption) rfl ?_
    refine nl ?_
    refine then_n ?_
    refine fo (i := 8) (by kernel_rfl) rfl rfl ?_
    first | refine ld H rfl sc2 rfl rfl ?_ | refine lc rfl (by first | assumption | exact H.fr.cell (by assumption) (by simp)) sc2 rfl ?_ | refine ld H rfl sc2 (by assumption) rfl ?_
    refine nl ?_
    refine then_n ?_
    refine holdH H [10] ?_
    refine tk (i := 9) rfl (by kernel_rfl) rfl H (fun w' H => r_slTl rfl rfl Tryd.underlying9 (by first | trivial | omega | (simp; omega))) ?_
    refine fb (i := 10) (by kernel_rfl) rfl rfl rfl ?_
    refine cpTM H rfl rfl Tryd.underlying23 sz5_1 (by rw [List.length_drop, Int.toNat_natCast]; omega) (by omega) (by omega) rfl ?_
    clear H; intro w2 H _ _
    rw [pAt_all (by rw [List.length_take, List.length_drop, Int.toNat_natCast]; omega), Int.toNat_natCast] at H
    refine nl ?_
    refine then_n ?_
    refine holdH H [] ?_
    refine tk (i := 11) rfl (by kernel_rfl) rfl H (fun w' H => r_asg (v := .int .i64 _) rfl) ?_
    refine da (by kernel_rfl) ?_
    refine then_n ?_
    refine sq ?_
    refine rg ?_
    refine mv (v := .pointer _) rfl rfl ?_
    first | refine nc rfl rfl ?_ | refine nci rfl rfl ?_
    refine fa rfl fo87_1 rfl ?_
    first | refine ld H rfl sc2 rfl rfl ?_ | refine lc rfl (by first | assumption | exact H.fr.cell (by assumption) (by simp)) sc2 rfl ?_ | refine ld H rfl sc2 (by assumption) rfl ?_
    refine mv (v := .int .i64 _) rfl rfl ?_
    refine add (c := ((k + 512 : Nat) : Int)) rfl rfl (by rw [w_i64 (by omega)]; omega) rfl ?_
    first | refine nc rfl rfl ?_ | refine nci rfl rfl ?_
    refine fa rfl fo87_1 rfl ?_
    refine st (v := .int .i64 _) H rfl rfl sc2 rfl (by first | decide | (simp only [List.length_set, List.length_cons, List.length_nil, List.length_replicate, List.length_append, Bs_length]; omega) | omega) (by omega) ?_
    clear H; intro w3 H _
    refine nl ?_
    refine then_n ?_
    refine rt ?_
    refine fin_r ?_
    exact ⟨rfl, H⟩
  · first | refine ld H rfl sc2 rfl rfl ?_ | refine lc rfl (by first | assumption | exact H.fr.cell (by assumption) (by simp)) sc2 rfl ?_ | refine ld H rfl sc2 (by assumption) rfl ?_
    refine nl ?_
    refine then_n ?_
    refine fo (i := 4) (by kernel_rfl) rfl rfl ?_
    first | refine ld H rfl sc9 rfl rfl ?_ | refine lc rfl (by first | assumption | exact H.fr.cell (by assumption) (by simp)) sc9 rfl ?_ | refine ld H rfl sc9 (by assumption) rfl ?_
    refine nl ?_
    refine then_n ?_
    refine holdH H [10] ?_
    refine tk (i := 9) rfl (by kernel_rfl) rfl H (fun w' H => r_slTl rfl rfl Tryd.underlying9 (by first | trivial | omega | (simp; omega))) ?_
    refine fb (i := 10) (by kernel_rfl) rfl rfl rfl ?_
    refine cpTM H rfl rfl Tryd.underlying23 sz5_1 (by rw [List.length_drop, Int.toNat_natCast]; omega) (by omega) (by omega) rfl ?_
    clear H; intro w4 H _ _
    rw [pAt_all (by rw [List.length_take, List.length_drop, Int.toNat_natCast]; omega), Int.toNat_natCast] at H
    refine nl ?_
    refine then_n ?_
    refine holdH H [] ?_
    refine tk (i := 11) rfl (by kernel_rfl) rfl H (fun w' H => r_asg (v := .int .i64 _) rfl) ?_
    refine da (by kernel_rfl) ?_
    refine then_n ?_
    refine sq ?_
    refine rg ?_
    refine mv (v := .pointer _) rfl rfl ?_
    first | refine nc rfl rfl ?_ | refine nci rfl rfl ?_
    refine fa rfl fo87_1 rfl ?_
    first | refine ld H rfl sc2 rfl rfl ?_ | refine lc rfl (by first | assumption | exact H.fr.cell (by assumption) (by simp)) sc2 rfl ?_ | refine ld H rfl sc2 (by assumption) rfl ?_
    refine mv (v := .int .i64 _) rfl rfl ?_
    refine add (c := ((k + 512 : Nat) : Int)) rfl rfl (by rw [w_i64 (by omega)]; omega) rfl ?_
    first | refine nc rfl rfl ?_ | refine nci rfl rfl ?_
    refine fa rfl fo87_1 rfl ?_
    refine st (v := .int .i64 _) H rfl rfl sc2 rfl (by first | decide | (simp only [List.length_set, List.length_cons, List.length_nil, List.length_replicate, List.length_append, Bs_length]; omega) | omega) (by omega) ?_
    clear H; intro w5 H _
    refine nl ?_
    refine then_n ?_
    refine rt ?_
    refine fin_r ?_
    exact ⟨rfl, H⟩

set_option maxRecDepth 100000 in
set_option maxHeartbeats 1000000 in
theorem c_rdEnd (w : World) (b r k c2 : Nat) (T : TypeId) (s bf : List UInt8) (hb : w.heap[b]? = some (.cells (Bs bf).toArray T (0, 0))) (hr : w.heap[r]? = some (.cells ([.string (str s), .int .i64 ((k : Int)), .int .i64 (-1)] : List Value).toArray 87 (0, 0))) (hne : b ≠ r) (hbf : bf.length = 512) (hs : s.length ≤ 1000000000) (hk2 : k ≤ 1000000000) (h0 : 0 < b ∧ 0 < r) (ad : Addr) (hE : EofW 0 91 ad w) (hk : s.length ≤ k) : Calls Tryd.prog 52 #[.pointer (some ⟨r, 0, none⟩), .slice (some ⟨b, 0, none⟩) 512 c2] w (Ret fun v w' => v = .tuple #[.int .i64 0, .iface 91 (.pointer (some ad))] ∧ SH w [b, r] w' [⟨b, .cells (Bs (bf)).toArray T (0, 0), true⟩, ⟨r, .cells ([.string (str s), .int .i64 ((k : Int)), .int .i64 (-1)] : List Value).toArray 87 (0, 0), true⟩]) := by
  refine enter (fun ρ => .tuple #[ρ 4, ρ 5]) Tryd.func52 rfl rfl rfl (res2 rfl) ?_
  have H : SH w [b, r] w [⟨b, .cells (Bs (bf)).toArray T (0, 0), true⟩, ⟨r, .cells ([.string (str s), .int .i64 ((k : Int)), .int .i64 (-1)] : List Value).toArray 87 (0, 0), true⟩] := SH.init [b, r] _ (by simp [hb, hr]) (by simp [hne]) (by simp)
  have hsz := size_str s
  refine sq ?_
  refine rg ?_
  refine asg (v := .int .i64 _) rfl rfl ?_
  refine asg (v := .nilIface) rfl rfl ?_
  refine nl ?_
  refine then_n ?_
  refine sq ?_
  refine sq ?_
  refine dr (by kernel_rfl) ?_   -- region 1
  have H := H.drew
  refine holdH H [] ?_
  refine tk (i := 0) rfl (by kernel_rfl) rfl H (fun w' H => r_mv (v := .pointer _) rfl) ?_
  first | refine tk (i := 1) rfl (by kernel_rfl) rfl H (fun w' H => r_nc rfl) ?_ | refine tk (i := 1) rfl (by kernel_rfl) rfl H (fun w' H => r_nci rfl) ?_
  refine tk (i := 2) rfl (by kernel_rfl) rfl H (fun w' H => r_fa rfl fo87_1) ?_
  first | refine tk (i := 3) rfl (by kernel_rfl) rfl H (fun w' H => r_ld H rfl sc2 rfl) ?_ | refine tk (i := 3) rfl (by kernel_rfl) rfl H (fun w' H => r_lc rfl (by first | assumption | exact H.fr.cell (by assumption) (by simp)) sc2) ?_ | refine tk (i := 3) rfl (by kernel_rfl) rfl H (fun w' H => r_ld H rfl sc2 (by assumption)) ?_
  refine tk (i := 4) rfl (by kernel_rfl) rfl H (fun w' H => r_mv (v := .pointer _) rfl) ?_
  first | refine tk (i := 5) rfl (by kernel_rfl) rfl H (fun w' H => r_nc rfl) ?_ | refine tk (i := 5) rfl (by kernel_rfl) rfl H (fun w' H => r_nci rfl) ?_
  refine tk (i := 6) rfl (by kernel_rfl) rfl H (fun w' H => r_fa rfl fo87_0) ?_
  first | refine tk (i := 7) rfl (by kernel_rfl) rfl H (fun w' H => r_ld H rfl sc9 rfl) ?_ | refine tk (i := 7) rfl (by kernel_rfl) rfl H (fun w' H => r_lc rfl (by first | assumption | exact H.fr.cell (by assumption) (by simp)) sc9) ?_ | refine tk (i := 7) rfl (by kernel_rfl) rfl H (fun w' H => r_ld H rfl sc9 (by assumption)) ?_
  refine tk (i := 8) rfl (by kernel_rfl) rfl H (fun w' H => r_lnT rfl Tryd.underlying9) ?_
  refine tk (i := 9) rfl (by kernel_rfl) rfl H (fun w' H => r_geq rfl rfl) ?_
  refine da (by kernel_rfl) ?_
  refine then_n ?_
  first | refine cT rfl (by omega) ?_ | refine cbT rfl (by omega) ?_   -- test 1
  refine sq ?_
  refine dr (by kernel_rfl) ?_   -- region 2
  have H := H.drew
  refine holdH H [] ?_
  refine tk (i := 0) rfl (by kernel_rfl) rfl H (fun w' H => r_lc (v := .iface _ _) rfl (hE.fr H.fr (by simp; omega)) sc48) ?_
  refine tk (i := 1) rfl (by kernel_rfl) rfl H (fun w' H => r_asg (v := .int .i64 _) rfl) ?_
  first | refine tk (i := 2) rfl (by kernel_rfl) rfl H (fun w' H => r_asg (v := .nilIface) rfl) ?_ | refine tk (i := 2) rfl (by kernel_rfl) rfl H (fun w' H => r_asg (v := .iface _ _) rfl) ?_ | refine tk (i := 2) rfl (by kernel_rfl) rfl H (fun w' H => r_asg rfl) ?_
  refine da (by kernel_rfl) ?_
  refine then_n ?_
  refine rt ?_
  refine then_r ?_
  refine fin_r ?_
  exact ⟨rfl, H⟩

theorem c_read (w : World) (b r k c2 : Nat) (T : TypeId) (s bf : List UInt8) (hb : w.heap[b]? = some (.cells (Bs bf).toArray T (0, 0))) (hr : w.heap[r]? = some (.cells ([.string (str s), .int .i64 ((k : Int)), .int .i64 (-1)] : List Value).toArray 87 (0, 0))) (hne : b ≠ r) (hbf : bf.length = 512) (hs : s.length ≤ 1000000000) (hk2 : k ≤ 1000000000) (h0 : 0 < b ∧ 0 < r) (ad : Addr) (hE : EofW 0 91 ad w) (hk : k + 512 ≤ s.length ∨ s.length ≤ k) : Calls Tryd.prog 52 #[.pointer (some ⟨r, 0, none⟩), .slice (some ⟨b, 0, none⟩) 512 c2] w (Ret fun v w' => ∃ (m k2 : Nat) (e : Value) (bf2 : List UInt8), v = .tuple #[.int .i64 (m : Int), e] ∧ SH w [b, r] w' [⟨b, .cells (Bs (bf2)).toArray T (0, 0), true⟩, ⟨r, .cells ([.string (str s), .int .i64 ((k2 : Int)), .int .i64 (-1)] : List Value).toArray 87 (0, 0), true⟩] ∧ bf2.length = 512 ∧ Ifc e ∧
    ((k + 512 ≤ s.length ∧ m = 512 ∧ e = .nilIface ∧ k2 = k + 512 ∧ bf2 = (s.drop k).take 512) ∨ (s.length ≤ k ∧ m = 0 ∧ e = .iface 91 (.pointer (some ad)) ∧ k2 = k))) := by
  rcases hk with hk | hk
  · exact Ret.mono (c_rdMore w b r k c2 T s bf hb hr hne hbf hs hk2 h0 hk) fun v w' ⟨h1, h2⟩ => ⟨512, k + 512, .nilIface, _, h1, h2, by rw [List.length_take, List.length_drop]; omega, .inl rfl, .inl ⟨hk, rfl, rfl, rfl, rfl⟩⟩
  · exact Ret.mono (c_rdEnd w b r k c2 T s bf hb hr hne hbf hs hk2 h0 ad hE hk) fun v w' ⟨h1, h2⟩ => ⟨0, k, _, bf, h1, h2, hbf, .inr ⟨_, _, rfl⟩, .inr ⟨hk, rfl, rfl, rfl⟩⟩

end Go.Proofs.YtgmkjndmjnbahaaDoor.X
