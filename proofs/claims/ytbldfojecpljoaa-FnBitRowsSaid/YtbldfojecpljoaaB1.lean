/- Walks of functions, printed by a program of this claim. -/
import Derived.Test.YtbldfojecpljoaaProg
import Derived.Test.YtbldfojecpljoaaRuns
import Derived.Test.YtbldfojecpljoaaBitPure
namespace Go.Proofs.Ytbldfojecpljoaa.X
set_option linter.unusedVariables false
set_option linter.unusedSimpArgs false
open Go Go.RowKit

namespace B1
theorem ag91_1 : aggB Try.prog 91 1 = true := by kernel_rfl
theorem bo91 : buildOK Try.prog 91 = true := by kernel_rfl
theorem bo99 : buildOK Try.prog 99 = true := by kernel_rfl
theorem ca50 : callable Try.prog 50 = true := by kernel_rfl
theorem ca51 : callable Try.prog 51 = true := by kernel_rfl
theorem ca52 : callable Try.prog 52 = true := by kernel_rfl
theorem cc97 : Try.prog.concrete 97 = true := by kernel_rfl
theorem fo91_0 : fieldOff Try.prog 91 0 = some 0 := by kernel_rfl
theorem mi5 : elemInfo Try.prog 5 = some (.int .u8 0, 1) := by kernel_rfl
theorem pl91_0 : placeOf Try.prog 91 0 = some (0, 1) := by kernel_rfl
theorem pl99_0 : placeOf Try.prog 99 0 = some (0, 1) := by kernel_rfl
theorem sc23 : scalarB Try.prog 23 = true := by kernel_rfl
theorem sc5 : scalarB Try.prog 5 = true := by kernel_rfl
theorem sz5_1 : sizeB Try.prog 5 1 = true := by kernel_rfl
theorem ze91 : zeroL Try.prog 91 = some [.slice none 0 0] := by kernel_rfl
theorem ze99 : zeroL Try.prog 99 = some [.string ⟨#[]⟩] := by kernel_rfl

end B1
open B1

theorem szu8 : sizeB Try.prog 5 1 = true := by kernel_rfl

set_option maxRecDepth 100000 in
theorem c_errNew (w : World) (s : List UInt8) : Calls Try.prog 51 #[.string (str s)] w (Ret fun v w' => (∃ b, v = .iface 97 (.pointer (some ⟨b, 0, none⟩))) ∧ Fr [] w w') := by
  refine enter (fun ρ => ρ 2) Try.func51 rfl rfl rfl (res1 rfl) ?_
  have H := SH.nil w
  refine sq ?_
  refine rg ?_
  refine asg (v := .nilIface) rfl rfl ?_
  refine nl ?_
  refine then_n ?_
  refine sq ?_
  refine rg ?_
  refine mv (v := .string _) rfl rfl ?_
  refine bu (out := ?o1) ze99 bo99 ?f1 rfl ?_
  case f1 =>
    refine FL.one (v := .string _) rfl pl99_0 rfl (by decide) ?_
    exact FL.nil
  refine bx (v := .agg _) H rfl rfl rfl ?_
  clear H; intro b1 w1 hb1 H _
  refine mi (v := .pointer _) rfl cc97 rfl ?_
  first | refine asg (v := .nilIface) rfl rfl ?_ | refine asg (v := .iface _ _) rfl rfl ?_ | refine asg rfl rfl ?_
  refine nl ?_
  refine then_n ?_
  refine rt ?_
  refine fin_r ?_
  exact ⟨⟨_, rfl⟩, H.fr⟩

set_option maxRecDepth 100000 in
theorem c_fromBytes (w : World) (A : Option Addr) (m c : Nat) (bs : List UInt8) (hb : RB w A m bs) (hm : m ≤ 140737488355328) : Calls Try.prog 40 #[.slice A m c] w (Ret fun v w' => ∃ bm bb, v = .pointer (some ⟨bm, 0, none⟩) ∧ w.heap.size ≤ bm ∧ w.heap.size ≤ bb ∧ bm ≠ bb ∧ w'.heap[bm]? = some (.cells [.slice (some ⟨bb, 0, none⟩) m m].toArray 91 (0, 0)) ∧ w'.heap[bb]? = some (.cells (Bs bs).toArray 5 (0, 0)) ∧ Fr [] w w') := by
  refine enter (fun ρ => ρ 2) Try.func40 rfl rfl rfl (res1 rfl) ?_
  have H := SH.nil w
  have hbl := hb.1
  refine sq ?_
  refine rg ?_
  refine asg (v := .pointer _) rfl rfl ?_
  refine nl ?_
  refine then_n ?_
  refine sq ?_
  refine rg ?_
  refine mv (v := .slice _ _ _) rfl rfl ?_
  refine lnS rfl Try.underlying23 rfl ?_
  refine mkB H rfl rfl Try.underlying23 mi5 (by omega) (by omega) (by omega) (by omega) rfl ?_
  clear H; intro b1 w1 hb1 H _
  refine asg (v := .slice _ _ _) rfl rfl ?_
  refine nl ?_
  refine then_n ?_
  refine sq ?_
  refine rg ?_
  refine mv (v := .slice _ _ _) rfl rfl ?_
  refine mv (v := .slice _ _ _) rfl rfl ?_
  refine cpB H rfl rfl Try.underlying23 szu8 (hb.keep H.fr) (by simp) (by omega) rfl ?_
  clear H; intro w2 H _
  refine nl ?_
  refine then_n ?_
  refine sq ?_
  refine rg ?_
  refine mv (v := .slice _ _ _) rfl rfl ?_
  refine bu (out := ?o1) ze91 bo91 ?f1 rfl ?_
  case f1 =>
    refine FL.one (v := .slice _ _ _) rfl pl91_0 rfl (by decide) ?_
    exact FL.nil
  refine al H ze91 rfl ?_
  clear H; intro b2 w3 hb2 H _
  refine sa H rfl rfl ag91_1 rfl rfl (by decide) (by omega) rfl ?_
  clear H; intro w4 H _
  refine nl ?_
  refine then_n ?_
  refine sq ?_
  refine rg ?_
  refine asg (v := .pointer _) rfl rfl ?_
  refine nl ?_
  refine then_n ?_
  refine rt ?_
  refine fin_r ?_
  refine ⟨_, _, rfl, H.ge, H.ge, (by have hq := H.ap; simp at hq; omega), ?_, ?_, H.fr⟩
  · have h := H.look (b := b2)
    simpa using h
  · have h := H.look (b := b1)
    have e : (List.replicate m (0 : UInt8)).take 0 ++ bs.take (min m m) ++ (List.replicate m (0 : UInt8)).drop (0 + min m m) = bs := by
      simp [List.take_of_length_le (show bs.length ≤ m by omega)]
    simp only [Int.toNat_natCast] at h
    rw [e] at h; exact h

set_option maxRecDepth 100000 in
theorem c_findBit (w : World) (n : Int) (h0 : 0 ≤ n) (h1 : n ≤ 9223372036854775807) : Calls Try.prog 52 #[.int .i64 n] w (Ret fun v w' => v = .tuple #[.int .i64 (n / 8), .int .u8 (n % 8)] ∧ Fr [] w w') := by
  refine enter (fun ρ => .tuple #[ρ 2, ρ 3]) Try.func52 rfl rfl rfl (res2 rfl) ?_
  have H := SH.nil w
  refine sq ?_
  refine rg ?_
  refine asg (v := .int .i64 _) rfl rfl ?_
  refine asg (v := .int .u8 _) rfl rfl ?_
  refine nl ?_
  refine then_n ?_
  refine sq ?_
  refine rg ?_
  refine mv (v := .int .i64 _) rfl rfl ?_
  refine quo rfl rfl (by omega) (by omega) (by first | exact w_i64 (by omega) | exact w_i64 (rng_i64 _) | rfl) rfl ?_
  refine mv (v := .int .i64 _) rfl rfl ?_
  refine rem rfl rfl (by omega) (by omega) rfl rfl ?_
  refine cvi rfl rfl Try.underlying5 (by first | exact w_u8 (by omega) | exact w_u8 (rng_u8 _) | exact m_u8 _) rfl ?_
  refine asg (v := .int .i64 _) rfl rfl ?_
  refine asg (v := .int .u8 _) rfl rfl ?_
  refine nl ?_
  refine then_n ?_
  refine rt ?_
  refine fin_r ?_
  exact ⟨rfl, H.fr⟩

set_option maxRecDepth 100000 in
theorem c_newBytes (w : World) (m : Nat) (hm : m ≤ 140737488355328) : Calls Try.prog 50 #[.int .i64 (m : Int)] w (Ret fun v w' => ∃ bm bb, v = .pointer (some ⟨bm, 0, none⟩) ∧ w.heap.size ≤ bm ∧ w.heap.size ≤ bb ∧ bm ≠ bb ∧ w'.heap[bm]? = some (.cells [.slice (some ⟨bb, 0, none⟩) m m].toArray 91 (0, 0)) ∧ w'.heap[bb]? = some (.cells (Bs (List.replicate m 0)).toArray 5 (0, 0)) ∧ Fr [] w w') := by
  refine enter (fun ρ => ρ 2) Try.func50 rfl rfl rfl (res1 rfl) ?_
  have H := SH.nil w
  refine sq ?_
  refine rg ?_
  refine asg (v := .pointer _) rfl rfl ?_
  refine nl ?_
  refine then_n ?_
  refine sq ?_
  refine sq ?_
  refine rg ?_
  refine mv (v := .int .i64 _) rfl rfl ?_
  refine lss rfl rfl rfl ?_
  refine nl ?_
  refine then_n ?_
  first | refine cF rfl (by omega) ?_ | refine cbF rfl (by omega) ?_   -- test 1
  refine sk ?_
  refine then_n ?_
  refine sq ?_
  refine rg ?_
  refine mv (v := .int .i64 _) rfl rfl ?_
  refine mkB H rfl rfl Try.underlying23 mi5 (by omega) (by omega) (by omega) (by omega) rfl ?_
  clear H; intro b1 w1 hb1 H _
  refine bu (out := ?o1) ze91 bo91 ?f1 rfl ?_
  case f1 =>
    refine FL.one (v := .slice _ _ _) rfl pl91_0 rfl (by decide) ?_
    exact FL.nil
  refine al H ze91 rfl ?_
  clear H; intro b2 w2 hb2 H _
  refine sa H rfl rfl ag91_1 rfl rfl (by decide) (by omega) rfl ?_
  clear H; intro w3 H _
  refine nl ?_
  refine then_n ?_
  refine sq ?_
  refine rg ?_
  refine asg (v := .pointer _) rfl rfl ?_
  refine nl ?_
  refine then_n ?_
  refine rt ?_
  refine fin_r ?_
  refine ⟨_, _, rfl, H.ge, H.ge, (by have hq := H.ap; simp at hq; omega), ?_, ?_, H.fr⟩
  · have h := H.look (b := b2)
    simpa using h
  · have h := H.look (b := b1)
    simpa using h

set_option maxRecDepth 100000 in
theorem c_newBits (w : World) (k : Nat) (hk : k ≤ 1048576) : Calls Try.prog 38 #[.int .i64 (k : Int)] w (Ret fun v w' => ∃ bm bb, v = .pointer (some ⟨bm, 0, none⟩) ∧ w.heap.size ≤ bm ∧ w.heap.size ≤ bb ∧ bm ≠ bb ∧ w'.heap[bm]? = some (.cells [.slice (some ⟨bb, 0, none⟩) ((k + 7) / 8) ((k + 7) / 8)].toArray 91 (0, 0)) ∧ w'.heap[bb]? = some (.cells (Bs (List.replicate ((k + 7) / 8) 0)).toArray 5 (0, 0)) ∧ Fr [] w w') := by
  refine enter (fun ρ => ρ 2) Try.func38 rfl rfl rfl (res1 rfl) ?_
  have H := SH.nil w
  refine sq ?_
  refine rg ?_
  refine asg (v := .pointer _) rfl rfl ?_
  refine nl ?_
  refine then_n ?_
  refine sq ?_
  refine sq ?_
  refine rg ?_
  refine mv (v := .int .i64 _) rfl rfl ?_
  refine lss rfl rfl rfl ?_
  refine nl ?_
  refine then_n ?_
  first | refine cF rfl (by omega) ?_ | refine cbF rfl (by omega) ?_   -- test 1
  refine sk ?_
  refine then_n ?_
  refine sq ?_
  refine rg ?_
  refine mv (v := .int .i64 _) rfl rfl ?_
  refine add rfl rfl (by first | exact w_i64 (by omega) | exact w_i64 (rng_i64 _) | rfl) rfl ?_
  refine quo rfl rfl (by omega) (by omega) (by first | exact w_i64 (by omega) | exact w_i64 (rng_i64 _) | rfl) rfl ?_
  refine asg (v := .int .i64 _) rfl rfl ?_
  refine nl ?_
  refine then_n ?_
  refine sq ?_
  refine rg ?_
  refine mv (v := .int .i64 _) rfl rfl ?_
  refine cl ca50 (c_newBytes _ ((k + 7) / 8) (by omega)) rfl ?_
  rintro _ w1 ⟨bm1, bb1, rfl, hbm, hbb, hne, h4, h5, F⟩
  replace H := H.new2 F hbm hbb hne h4 h5; clear F h4 h5
  refine asg (v := .pointer _) rfl rfl ?_
  refine nl ?_
  refine then_n ?_
  refine rt ?_
  refine fin_r ?_
  refine ⟨bm1, bb1, rfl, H.ge, H.ge, hne, H.look, H.look, H.fr⟩

set_option maxRecDepth 100000 in
theorem c_toBytes (w : World) (bm bb m : Nat) (bs : List UInt8) (hbl : bs.length = m) (hm : w.heap[bm]? = some (.cells [.slice (some ⟨bb, 0, none⟩) m m].toArray 91 (0, 0))) (hb : w.heap[bb]? = some (.cells (Bs bs).toArray 5 (0, 0))) (hl : m ≤ 140737488355328) : Calls Try.prog 39 #[.pointer (some ⟨bm, 0, none⟩)] w (Ret fun v w' => ∃ b, v = .slice (some ⟨b, 0, none⟩) m m ∧ w.heap.size ≤ b ∧ w'.heap[b]? = some (.cells (Bs bs).toArray 5 (0, 0)) ∧ Fr [] w w') := by
  refine enter (fun ρ => ρ 2) Try.func39 rfl rfl rfl (res1 rfl) ?_
  have H := SH.ro2 hm hb
  refine sq ?_
  refine rg ?_
  refine asg (v := .slice _ _ _) rfl rfl ?_
  refine nl ?_
  refine then_n ?_
  refine sq ?_
  refine rg ?_
  refine mv (v := .pointer _) rfl rfl ?_
  first | refine nc rfl rfl ?_ | refine nci rfl rfl ?_
  refine fa rfl fo91_0 rfl ?_
  first | refine ld H rfl sc23 rfl rfl ?_ | refine lc rfl (by assumption) sc23 rfl ?_
  refine lnS rfl Try.underlying23 rfl ?_
  refine mkB H rfl rfl Try.underlying23 mi5 (by omega) (by omega) (by omega) (by omega) rfl ?_
  clear H; intro b1 w1 hb1 H _
  refine asg (v := .slice _ _ _) rfl rfl ?_
  refine nl ?_
  refine then_n ?_
  refine sq ?_
  refine rg ?_
  refine mv (v := .slice _ _ _) rfl rfl ?_
  refine mv (v := .pointer _) rfl rfl ?_
  first | refine nc rfl rfl ?_ | refine nci rfl rfl ?_
  refine fa rfl fo91_0 rfl ?_
  first | refine ld H rfl sc23 rfl rfl ?_ | refine lc rfl (by assumption) sc23 rfl ?_
  refine cpB H rfl rfl Try.underlying23 szu8 (RB.allm (b := bb) H hbl) (by simp) (by omega) rfl ?_
  clear H; intro w2 H _
  refine nl ?_
  refine then_n ?_
  refine sq ?_
  refine rg ?_
  refine mv (v := .slice _ _ _) rfl rfl ?_
  refine asg (v := .slice _ _ _) rfl rfl ?_
  refine nl ?_
  refine then_n ?_
  refine rt ?_
  refine fin_r ?_
  refine ⟨_, rfl, H.ge, ?_, H.fr⟩
  have h := H.look (b := b1)
  have e : (List.replicate m (0 : UInt8)).take 0 ++ bs.take (min m m) ++ (List.replicate m (0 : UInt8)).drop (0 + min m m) = bs := by
    simp [List.take_of_length_le (show bs.length ≤ m by omega)]
  simp only [Int.toNat_natCast] at h
  rw [e] at h; exact h

set_option maxRecDepth 100000 in
theorem c_isSet (w : World) (bm bb m : Nat) (bs : List UInt8) (hbl : bs.length = m) (hm : w.heap[bm]? = some (.cells [.slice (some ⟨bb, 0, none⟩) m m].toArray 91 (0, 0))) (hb : w.heap[bb]? = some (.cells (Bs bs).toArray 5 (0, 0))) (hl : m ≤ 140737488355328) (k : Nat) (hk : k < m * 8) : Calls Try.prog 41 #[.pointer (some ⟨bm, 0, none⟩), .int .i64 (k : Int)] w (Ret fun v w' => v = .tuple #[.bool (bitAt bs k), .nilIface] ∧ Fr [] w w') := by
  refine enter (fun ρ => .tuple #[ρ 4, ρ 5]) Try.func41 rfl rfl rfl (res2 rfl) ?_
  have H := SH.ro2 hm hb
  refine sq ?_
  refine rg ?_
  refine asg (v := .bool _) rfl rfl ?_
  refine asg (v := .nilIface) rfl rfl ?_
  refine nl ?_
  refine then_n ?_
  refine sq ?_
  refine sq ?_
  refine rg ?_
  refine mv (v := .int .i64 _) rfl rfl ?_
  refine lss rfl rfl rfl ?_
  refine nl ?_
  refine then_n ?_
  first | refine cF rfl (by omega) ?_ | refine cbF rfl (by omega) ?_   -- test 1
  refine sk ?_
  refine then_n ?_
  refine sq ?_
  refine rg ?_
  refine mv (v := .int .i64 _) rfl rfl ?_
  refine cl ca52 (c_findBit _ _ (by omega) (by omega)) rfl ?_
  rintro _ w1 ⟨rfl, F⟩
  replace H := H.keep F; clear F
  refine mv (v := .tuple _) rfl rfl ?_
  refine xt rfl rfl rfl ?_
  refine xt rfl rfl rfl ?_
  refine asg (v := .int .i64 _) rfl rfl ?_
  refine asg (v := .int .u8 _) rfl rfl ?_
  refine nl ?_
  refine then_n ?_
  refine sq ?_
  refine sq ?_
  refine rg ?_
  refine mv (v := .int .i64 _) rfl rfl ?_
  refine mv (v := .pointer _) rfl rfl ?_
  first | refine nc rfl rfl ?_ | refine nci rfl rfl ?_
  refine fa rfl fo91_0 rfl ?_
  first | refine ld H rfl sc23 rfl rfl ?_ | refine lc rfl (by assumption) sc23 rfl ?_
  refine lnS rfl Try.underlying23 rfl ?_
  refine gtr rfl rfl rfl ?_
  refine nl ?_
  refine then_n ?_
  first | refine cF rfl (by omega) ?_ | refine cbF rfl (by omega) ?_   -- test 2
  refine sk ?_
  refine then_n ?_
  refine sq ?_
  refine rg ?_
  refine mv (v := .int .u8 _) rfl rfl ?_
  refine shl (c := mask8 (k % 8)) rfl rfl (by omega) (mask8_eq k) rfl ?_
  refine asg (v := .int .u8 _) rfl rfl ?_
  refine nl ?_
  refine then_n ?_
  refine sq ?_
  refine rg ?_
  refine mv (v := .pointer _) rfl rfl ?_
  first | refine nc rfl rfl ?_ | refine nci rfl rfl ?_
  refine fa rfl fo91_0 rfl ?_
  first | refine ld H rfl sc23 rfl rfl ?_ | refine lc rfl (by assumption) sc23 rfl ?_
  refine mv (v := .int .i64 _) rfl rfl ?_
  first | refine ia rfl rfl Try.underlying23 sz5_1 (by omega) rfl ?_ | refine iA rfl rfl Try.underlying23 sz5_1 (by omega) rfl ?_
  first | (refine ldb H rfl sc5 (by omega) rfl ?_; intro hu1) | refine ld H rfl sc5 rfl rfl ?_ | refine lc rfl (by assumption) sc5 rfl ?_
  refine mv (v := .int .u8 _) rfl rfl ?_
  refine band rfl rfl rfl rfl ?_
  refine mv (v := .int .u8 _) rfl rfl ?_
  refine eql rfl rfl rfl ?_
  refine asg (v := .bool _) rfl rfl ?_
  refine asg (v := .nilIface) rfl rfl ?_
  refine nl ?_
  refine then_n ?_
  refine rt ?_
  refine fin_r ?_
  refine ⟨?_, H.fr⟩
  have h := tb_mask (bs.getD (k / 8) 0) (k % 8) (by omega)
  show Value.tuple #[.bool (decide (bits .and .u8 ((bs.getD (0 + ((k : Int) / 8).toNat * 1) 0).toNat : Int) (mask8 (k % 8)) = mask8 (k % 8))), .nilIface] = _
  rw [ix8]
  congr 4
  unfold bitAt
  rw [Bool.eq_iff_iff]
  simpa using h

set_option maxRecDepth 100000 in
theorem c_isSetErr (w : World) (bm bb m : Nat) (bs : List UInt8) (hbl : bs.length = m) (hm : w.heap[bm]? = some (.cells [.slice (some ⟨bb, 0, none⟩) m m].toArray 91 (0, 0))) (hb : w.heap[bb]? = some (.cells (Bs bs).toArray 5 (0, 0))) (hl : m ≤ 140737488355328) (n : Int) (hk : n < 0 ∨ (m : Int) * 8 + 7 < n) (hn : n ≤ 9223372036854775807) : Calls Try.prog 41 #[.pointer (some ⟨bm, 0, none⟩), .int .i64 n] w (Ret fun v w' => (∃ p, v = .tuple #[.bool false, .iface 97 p]) ∧ Fr [] w w') := by
  refine enter (fun ρ => .tuple #[ρ 4, ρ 5]) Try.func41 rfl rfl rfl (res2 rfl) ?_
  have H := SH.ro2 hm hb
  refine sq ?_
  refine rg ?_
  refine asg (v := .bool _) rfl rfl ?_
  refine asg (v := .nilIface) rfl rfl ?_
  refine nl ?_
  refine then_n ?_
  refine sq ?_
  refine sq ?_
  refine rg ?_
  refine mv (v := .int .i64 _) rfl rfl ?_
  refine lss rfl rfl rfl ?_
  refine nl ?_
  refine then_n ?_
  first | refine cd rfl (fun hc1 => ?_) (fun hc1 => ?_) | refine cn rfl (fun hc1 => ?_) (fun hc1 => ?_)   -- test 1
  · refine sq ?_
    refine rg ?_
    refine cl ca51 (c_errNew _ _) rfl ?_
    rintro _ w1 ⟨⟨b1, rfl⟩, F⟩
    replace H := H.keep F; clear F
    refine asg (v := .bool _) rfl rfl ?_
    first | refine asg (v := .nilIface) rfl rfl ?_ | refine asg (v := .iface _ _) rfl rfl ?_ | refine asg rfl rfl ?_
    refine nl ?_
    refine then_n ?_
    refine rt ?_
    refine then_r ?_
    refine fin_r ?_
    exact ⟨⟨_, rfl⟩, H.fr⟩
  · refine sk ?_
    refine then_n ?_
    refine sq ?_
    refine rg ?_
    refine mv (v := .int .i64 _) rfl rfl ?_
    refine cl ca52 (c_findBit _ _ (by omega) (by omega)) rfl ?_
    rintro _ w2 ⟨rfl, F⟩
    replace H := H.keep F; clear F
    refine mv (v := .tuple _) rfl rfl ?_
    refine xt rfl rfl rfl ?_
    refine xt rfl rfl rfl ?_
    refine asg (v := .int .i64 _) rfl rfl ?_
    refine asg (v := .int .u8 _) rfl rfl ?_
    refine nl ?_
    refine then_n ?_
    refine sq ?_
    refine sq ?_
    refine rg ?_
    refine mv (v := .int .i64 _) rfl rfl ?_
    refine mv (v := .pointer _) rfl rfl ?_
    first | refine nc rfl rfl ?_ | refine nci rfl rfl ?_
    refine fa rfl fo91_0 rfl ?_
    first | refine ld H rfl sc23 rfl rfl ?_ | refine lc rfl (by assumption) sc23 rfl ?_
    refine lnS rfl Try.underlying23 rfl ?_
    refine gtr rfl rfl rfl ?_
    refine nl ?_
    refine then_n ?_
    first | refine cT rfl (by omega) ?_ | refine cbT rfl (by omega) ?_   -- test 2
    refine sq ?_
    refine rg ?_
    refine cl ca51 (c_errNew _ _) rfl ?_
    rintro _ w3 ⟨⟨b2, rfl⟩, F⟩
    replace H := H.keep F; clear F
    refine asg (v := .bool _) rfl rfl ?_
    first | refine asg (v := .nilIface) rfl rfl ?_ | refine asg (v := .iface _ _) rfl rfl ?_ | refine asg rfl rfl ?_
    refine nl ?_
    refine then_n ?_
    refine rt ?_
    refine then_r ?_
    refine fin_r ?_
    exact ⟨⟨_, rfl⟩, H.fr⟩

set_option maxRecDepth 100000 in
theorem c_bitSet (w : World) (bm bb m : Nat) (bs : List UInt8) (hbl : bs.length = m) (hm : w.heap[bm]? = some (.cells [.slice (some ⟨bb, 0, none⟩) m m].toArray 91 (0, 0))) (hb : w.heap[bb]? = some (.cells (Bs bs).toArray 5 (0, 0))) (hl : m ≤ 140737488355328) (hne : bm ≠ bb) (k : Nat) (hk : k < m * 8) : Calls Try.prog 44 #[.pointer (some ⟨bm, 0, none⟩), .int .i64 (k : Int)] w (Ret fun v w' => v = .nilIface ∧ w'.heap[bb]? = some (.cells (Bs (bitWith bs k false)).toArray 5 (0, 0)) ∧ Fr [bb] w w') := by
  refine enter (fun ρ => ρ 4) Try.func44 rfl rfl rfl (res1 rfl) ?_
  have H := SH.row hm hb hne
  refine sq ?_
  refine rg ?_
  refine asg (v := .nilIface) rfl rfl ?_
  refine nl ?_
  refine then_n ?_
  refine sq ?_
  refine sq ?_
  refine rg ?_
  refine mv (v := .int .i64 _) rfl rfl ?_
  refine lss rfl rfl rfl ?_
  refine nl ?_
  refine then_n ?_
  first | refine cF rfl (by omega) ?_ | refine cbF rfl (by omega) ?_   -- test 1
  refine sk ?_
  refine then_n ?_
  refine sq ?_
  refine rg ?_
  refine mv (v := .int .i64 _) rfl rfl ?_
  refine cl ca52 (c_findBit _ _ (by omega) (by omega)) rfl ?_
  rintro _ w1 ⟨rfl, F⟩
  replace H := H.keep F; clear F
  refine mv (v := .tuple _) rfl rfl ?_
  refine xt rfl rfl rfl ?_
  refine xt rfl rfl rfl ?_
  refine asg (v := .int .i64 _) rfl rfl ?_
  refine asg (v := .int .u8 _) rfl rfl ?_
  refine nl ?_
  refine then_n ?_
  refine sq ?_
  refine sq ?_
  refine rg ?_
  refine mv (v := .int .i64 _) rfl rfl ?_
  refine mv (v := .pointer _) rfl rfl ?_
  first | refine nc rfl rfl ?_ | refine nci rfl rfl ?_
  refine fa rfl fo91_0 rfl ?_
  first | refine ld H rfl sc23 rfl rfl ?_ | refine lc rfl (by assumption) sc23 rfl ?_
  refine lnS rfl Try.underlying23 rfl ?_
  refine geq rfl rfl rfl ?_
  refine nl ?_
  refine then_n ?_
  first | refine cF rfl (by omega) ?_ | refine cbF rfl (by omega) ?_   -- test 2
  refine sk ?_
  refine then_n ?_
  refine sq ?_
  refine rg ?_
  refine mv (v := .int .u8 _) rfl rfl ?_
  refine shl (c := mask8 (k % 8)) rfl rfl (by omega) (mask8_eq k) rfl ?_
  refine asg (v := .int .u8 _) rfl rfl ?_
  refine nl ?_
  refine then_n ?_
  refine sq ?_
  refine rg ?_
  refine mv (v := .pointer _) rfl rfl ?_
  first | refine nc rfl rfl ?_ | refine nci rfl rfl ?_
  refine fa rfl fo91_0 rfl ?_
  first | refine ld H rfl sc23 rfl rfl ?_ | refine lc rfl (by assumption) sc23 rfl ?_
  refine mv (v := .int .i64 _) rfl rfl ?_
  first | refine ia rfl rfl Try.underlying23 sz5_1 (by omega) rfl ?_ | refine iA rfl rfl Try.underlying23 sz5_1 (by omega) rfl ?_
  first | (refine ldb H rfl sc5 (by omega) rfl ?_; intro hu1) | refine ld H rfl sc5 rfl rfl ?_ | refine lc rfl (by assumption) sc5 rfl ?_
  refine mv (v := .int .u8 _) rfl rfl ?_
  refine bor rfl rfl rfl rfl ?_
  first | refine ia rfl rfl Try.underlying23 sz5_1 (by omega) rfl ?_ | refine iA rfl rfl Try.underlying23 sz5_1 (by omega) rfl ?_
  refine stb H rfl rfl sc5 (or_rng _ _ (by omega)) (by first | decide | (simp only [List.length_set, List.length_cons, List.length_nil, List.length_replicate, List.length_append, Bs_length]; omega) | omega) (by omega) ?_
  clear H; intro w90 H _
  refine nl ?_
  refine then_n ?_
  refine sq ?_
  refine rg ?_
  refine asg (v := .nilIface) rfl rfl ?_
  refine nl ?_
  refine then_n ?_
  refine rt ?_
  refine fin_r ?_
  refine ⟨rfl, ?_, H.fr⟩
  have h := H.look (b := bb)
  rw [ix8] at h
  simpa [bitWith] using h

set_option maxRecDepth 100000 in
theorem c_bitSetErr (w : World) (bm bb m : Nat) (bs : List UInt8) (hbl : bs.length = m) (hm : w.heap[bm]? = some (.cells [.slice (some ⟨bb, 0, none⟩) m m].toArray 91 (0, 0))) (hb : w.heap[bb]? = some (.cells (Bs bs).toArray 5 (0, 0))) (hl : m ≤ 140737488355328) (n : Int) (hk : n < 0 ∨ (m : Int) * 8 ≤ n) (hn : n ≤ 9223372036854775807) : Calls Try.prog 44 #[.pointer (some ⟨bm, 0, none⟩), .int .i64 n] w (Ret fun v w' => (∃ p, v = .iface 97 p) ∧ Fr [] w w') := by
  refine enter (fun ρ => ρ 4) Try.func44 rfl rfl rfl (res1 rfl) ?_
  have H := SH.ro2 hm hb
  refine sq ?_
  refine rg ?_
  refine asg (v := .nilIface) rfl rfl ?_
  refine nl ?_
  refine then_n ?_
  refine sq ?_
  refine sq ?_
  refine rg ?_
  refine mv (v := .int .i64 _) rfl rfl ?_
  refine lss rfl rfl rfl ?_
  refine nl ?_
  refine then_n ?_
  first | refine cd rfl (fun hc1 => ?_) (fun hc1 => ?_) | refine cn rfl (fun hc1 => ?_) (fun hc1 => ?_)   -- test 1
  · refine sq ?_
    refine rg ?_
    refine cl ca51 (c_errNew _ _) rfl ?_
    rintro _ w1 ⟨⟨b1, rfl⟩, F⟩
    replace H := H.keep F; clear F
    first | refine asg (v := .nilIface) rfl rfl ?_ | refine asg (v := .iface _ _) rfl rfl ?_ | refine asg rfl rfl ?_
    refine nl ?_
    refine then_n ?_
    refine rt ?_
    refine then_r ?_
    refine fin_r ?_
    exact ⟨⟨_, rfl⟩, H.fr⟩
  · refine sk ?_
    refine then_n ?_
    refine sq ?_
    refine rg ?_
    refine mv (v := .int .i64 _) rfl rfl ?_
    refine cl ca52 (c_findBit _ _ (by omega) (by omega)) rfl ?_
    rintro _ w2 ⟨rfl, F⟩
    replace H := H.keep F; clear F
    refine mv (v := .tuple _) rfl rfl ?_
    refine xt rfl rfl rfl ?_
    refine xt rfl rfl rfl ?_
    refine asg (v := .int .i64 _) rfl rfl ?_
    refine asg (v := .int .u8 _) rfl rfl ?_
    refine nl ?_
    refine then_n ?_
    refine sq ?_
    refine sq ?_
    refine rg ?_
    refine mv (v := .int .i64 _) rfl rfl ?_
    refine mv (v := .pointer _) rfl rfl ?_
    first | refine nc rfl rfl ?_ | refine nci rfl rfl ?_
    refine fa rfl fo91_0 rfl ?_
    first | refine ld H rfl sc23 rfl rfl ?_ | refine lc rfl (by assumption) sc23 rfl ?_
    refine lnS rfl Try.underlying23 rfl ?_
    refine geq rfl rfl rfl ?_
    refine nl ?_
    refine then_n ?_
    first | refine cT rfl (by omega) ?_ | refine cbT rfl (by omega) ?_   -- test 2
    refine sq ?_
    refine rg ?_
    refine cl ca51 (c_errNew _ _) rfl ?_
    rintro _ w3 ⟨⟨b2, rfl⟩, F⟩
    replace H := H.keep F; clear F
    first | refine asg (v := .nilIface) rfl rfl ?_ | refine asg (v := .iface _ _) rfl rfl ?_ | refine asg rfl rfl ?_
    refine nl ?_
    refine then_n ?_
    refine rt ?_
    refine then_r ?_
    refine fin_r ?_
    exact ⟨⟨_, rfl⟩, H.fr⟩

set_option maxRecDepth 100000 in
theorem c_bitClear (w : World) (bm bb m : Nat) (bs : List UInt8) (hbl : bs.length = m) (hm : w.heap[bm]? = some (.cells [.slice (some ⟨bb, 0, none⟩) m m].toArray 91 (0, 0))) (hb : w.heap[bb]? = some (.cells (Bs bs).toArray 5 (0, 0))) (hl : m ≤ 140737488355328) (hne : bm ≠ bb) (k : Nat) (hk : k < m * 8) : Calls Try.prog 45 #[.pointer (some ⟨bm, 0, none⟩), .int .i64 (k : Int)] w (Ret fun v w' => v = .nilIface ∧ w'.heap[bb]? = some (.cells (Bs (bitWith bs k true)).toArray 5 (0, 0)) ∧ Fr [bb] w w') := by
  refine enter (fun ρ => ρ 4) Try.func45 rfl rfl rfl (res1 rfl) ?_
  have H := SH.row hm hb hne
  refine sq ?_
  refine rg ?_
  refine asg (v := .nilIface) rfl rfl ?_
  refine nl ?_
  refine then_n ?_
  refine sq ?_
  refine sq ?_
  refine rg ?_
  refine mv (v := .int .i64 _) rfl rfl ?_
  refine lss rfl rfl rfl ?_
  refine nl ?_
  refine then_n ?_
  first | refine cF rfl (by omega) ?_ | refine cbF rfl (by omega) ?_   -- test 1
  refine sk ?_
  refine then_n ?_
  refine sq ?_
  refine rg ?_
  refine mv (v := .int .i64 _) rfl rfl ?_
  refine cl ca52 (c_findBit _ _ (by omega) (by omega)) rfl ?_
  rintro _ w1 ⟨rfl, F⟩
  replace H := H.keep F; clear F
  refine mv (v := .tuple _) rfl rfl ?_
  refine xt rfl rfl rfl ?_
  refine xt rfl rfl rfl ?_
  refine asg (v := .int .i64 _) rfl rfl ?_
  refine asg (v := .int .u8 _) rfl rfl ?_
  refine nl ?_
  refine then_n ?_
  refine sq ?_
  refine sq ?_
  refine rg ?_
  refine mv (v := .int .i64 _) rfl rfl ?_
  refine mv (v := .pointer _) rfl rfl ?_
  first | refine nc rfl rfl ?_ | refine nci rfl rfl ?_
  refine fa rfl fo91_0 rfl ?_
  first | refine ld H rfl sc23 rfl rfl ?_ | refine lc rfl (by assumption) sc23 rfl ?_
  refine lnS rfl Try.underlying23 rfl ?_
  refine geq rfl rfl rfl ?_
  refine nl ?_
  refine then_n ?_
  first | refine cF rfl (by omega) ?_ | refine cbF rfl (by omega) ?_   -- test 2
  refine sk ?_
  refine then_n ?_
  refine sq ?_
  refine rg ?_
  refine mv (v := .int .u8 _) rfl rfl ?_
  refine shl (c := mask8 (k % 8)) rfl rfl (by omega) (mask8_eq k) rfl ?_
  refine asg (v := .int .u8 _) rfl rfl ?_
  refine nl ?_
  refine then_n ?_
  refine sq ?_
  refine rg ?_
  refine mv (v := .int .u8 _) rfl rfl ?_
  refine ucompl rfl rfl rfl ?_
  refine asg (v := .int .u8 _) rfl rfl ?_
  refine nl ?_
  refine then_n ?_
  refine sq ?_
  refine rg ?_
  refine mv (v := .pointer _) rfl rfl ?_
  first | refine nc rfl rfl ?_ | refine nci rfl rfl ?_
  refine fa rfl fo91_0 rfl ?_
  first | refine ld H rfl sc23 rfl rfl ?_ | refine lc rfl (by assumption) sc23 rfl ?_
  refine mv (v := .int .i64 _) rfl rfl ?_
  first | refine ia rfl rfl Try.underlying23 sz5_1 (by omega) rfl ?_ | refine iA rfl rfl Try.underlying23 sz5_1 (by omega) rfl ?_
  first | (refine ldb H rfl sc5 (by omega) rfl ?_; intro hu1) | refine ld H rfl sc5 rfl rfl ?_ | refine lc rfl (by assumption) sc5 rfl ?_
  refine mv (v := .int .u8 _) rfl rfl ?_
  refine band (c := bits .andNot .u8 ((bs.getD (0 + ((k : Int) / 8).toNat * 1) 0).toNat : Int) (mask8 (k % 8))) rfl rfl (andnot_eq _ _ (by omega)) rfl ?_
  first | refine ia rfl rfl Try.underlying23 sz5_1 (by omega) rfl ?_ | refine iA rfl rfl Try.underlying23 sz5_1 (by omega) rfl ?_
  refine stb H rfl rfl sc5 (andnot_rng _ _ (by omega)) (by first | decide | (simp only [List.length_set, List.length_cons, List.length_nil, List.length_replicate, List.length_append, Bs_length]; omega) | omega) (by omega) ?_
  clear H; intro w90 H _
  refine nl ?_
  refine then_n ?_
  refine sq ?_
  refine rg ?_
  refine asg (v := .nilIface) rfl rfl ?_
  refine nl ?_
  refine then_n ?_
  refine rt ?_
  refine fin_r ?_
  refine ⟨rfl, ?_, H.fr⟩
  have h := H.look (b := bb)
  rw [ix8] at h
  simpa [bitWith] using h

set_option maxRecDepth 100000 in
theorem c_bitClearErr (w : World) (bm bb m : Nat) (bs : List UInt8) (hbl : bs.length = m) (hm : w.heap[bm]? = some (.cells [.slice (some ⟨bb, 0, none⟩) m m].toArray 91 (0, 0))) (hb : w.heap[bb]? = some (.cells (Bs bs).toArray 5 (0, 0))) (hl : m ≤ 140737488355328) (n : Int) (hk : n < 0 ∨ (m : Int) * 8 ≤ n) (hn : n ≤ 9223372036854775807) : Calls Try.prog 45 #[.pointer (some ⟨bm, 0, none⟩), .int .i64 n] w (Ret fun v w' => (∃ p, v = .iface 97 p) ∧ Fr [] w w') := by
  refine enter (fun ρ => ρ 4) Try.func45 rfl rfl rfl (res1 rfl) ?_
  have H := SH.ro2 hm hb
  refine sq ?_
  refine rg ?_
  refine asg (v := .nilIface) rfl rfl ?_
  refine nl ?_
  refine then_n ?_
  refine sq ?_
  refine sq ?_
  refine rg ?_
  refine mv (v := .int .i64 _) rfl rfl ?_
  refine lss rfl rfl rfl ?_
  refine nl ?_
  refine then_n ?_
  first | refine cd rfl (fun hc1 => ?_) (fun hc1 => ?_) | refine cn rfl (fun hc1 => ?_) (fun hc1 => ?_)   -- test 1
  · refine sq ?_
    refine rg ?_
    refine cl ca51 (c_errNew _ _) rfl ?_
    rintro _ w1 ⟨⟨b1, rfl⟩, F⟩
    replace H := H.keep F; clear F
    first | refine asg (v := .nilIface) rfl rfl ?_ | refine asg (v := .iface _ _) rfl rfl ?_ | refine asg rfl rfl ?_
    refine nl ?_
    refine then_n ?_
    refine rt ?_
    refine then_r ?_
    refine fin_r ?_
    exact ⟨⟨_, rfl⟩, H.fr⟩
  · refine sk ?_
    refine then_n ?_
    refine sq ?_
    refine rg ?_
    refine mv (v := .int .i64 _) rfl rfl ?_
    refine cl ca52 (c_findBit _ _ (by omega) (by omega)) rfl ?_
    rintro _ w2 ⟨rfl, F⟩
    replace H := H.keep F; clear F
    refine mv (v := .tuple _) rfl rfl ?_
    refine xt rfl rfl rfl ?_
    refine xt rfl rfl rfl ?_
    refine asg (v := .int .i64 _) rfl rfl ?_
    refine asg (v := .int .u8 _) rfl rfl ?_
    refine nl ?_
    refine then_n ?_
    refine sq ?_
    refine sq ?_
    refine rg ?_
    refine mv (v := .int .i64 _) rfl rfl ?_
    refine mv (v := .pointer _) rfl rfl ?_
    first | refine nc rfl rfl ?_ | refine nci rfl rfl ?_
    refine fa rfl fo91_0 rfl ?_
    first | refine ld H rfl sc23 rfl rfl ?_ | refine lc rfl (by assumption) sc23 rfl ?_
    refine lnS rfl Try.underlying23 rfl ?_
    refine geq rfl rfl rfl ?_
    refine nl ?_
    refine then_n ?_
    first | refine cT rfl (by omega) ?_ | refine cbT rfl (by omega) ?_   -- test 2
    refine sq ?_
    refine rg ?_
    refine cl ca51 (c_errNew _ _) rfl ?_
    rintro _ w3 ⟨⟨b2, rfl⟩, F⟩
    replace H := H.keep F; clear F
    first | refine asg (v := .nilIface) rfl rfl ?_ | refine asg (v := .iface _ _) rfl rfl ?_ | refine asg rfl rfl ?_
    refine nl ?_
    refine then_n ?_
    refine rt ?_
    refine then_r ?_
    refine fin_r ?_
    exact ⟨⟨_, rfl⟩, H.fr⟩

set_option maxRecDepth 100000 in
theorem c_allZero (w : World) (m : Nat) (hm : m ≤ 9223372036854775806) : Calls Try.prog 19 #[.string (str (List.replicate m 0)), .int .u8 0] w (Ret fun v w' => v = .bool true ∧ Fr [] w w') := by
  refine enter (fun ρ => ρ 4) Try.func19 rfl rfl rfl (res1 rfl) ?_
  have H := SH.nil w
  have hsz := size_str (List.replicate m 0)
  simp only [List.length_replicate] at hsz
  refine sq ?_
  refine rg ?_
  refine asg (v := .bool _) rfl rfl ?_
  refine nl ?_
  refine then_n ?_
  refine sq ?_
  refine sq ?_
  refine rg ?_
  refine mv (v := .string _) rfl rfl ?_
  refine lnT rfl Try.underlying9 rfl ?_
  refine mv (v := .int .i64 _) rfl rfl ?_
  refine nl ?_
  refine then_n ?_
  refine bk ?_
  refine lpM (α := Nat) [4, 5, 8, 9, 10, 11, 12, 13, 14, 15, 16] (fun i => [(8, .int .i64 (i : Int))]) (fun i w' => i ≤ m ∧ SH w [] w' []) (fun i => m - i) 0 ?_ (fC (by first | rfl | exact congrArg (Value.int _) (by omega)) (fN _)) ?_   -- loop 1
  · exact ⟨by omega, H⟩
  · rintro i ρx w1 ⟨hi, H⟩
    refine sq ?_
    refine rg ?_
    refine lss rfl rfl rfl ?_
    refine nl ?_
    refine then_n ?_
    refine sq ?_
    first | refine cd rfl (fun hc1 => ?_) (fun hc1 => ?_) | refine cn rfl (fun hc1 => ?_) (fun hc1 => ?_)   -- test 1
    · refine sk ?_
      refine then_n ?_
      refine sq ?_
      refine bk ?_
      refine sq ?_
      refine rg ?_
      refine mv (v := .int .i64 _) rfl rfl ?_
      refine asg (v := .int .i64 _) rfl rfl ?_
      refine nl ?_
      refine then_n ?_
      refine sq ?_
      refine rg ?_
      refine mv (v := .string _) rfl rfl ?_
      refine mv (v := .int .i64 _) rfl rfl ?_
      refine ixS rfl rfl Try.underlying9 (by simp; omega) rfl ?_; intro hu1
      refine mv (v := .int .u8 _) rfl rfl ?_
      refine neq rfl rfl rfl ?_
      refine nl ?_
      refine then_n ?_
      first | refine cF rfl (by have e : (List.replicate m (0 : UInt8))[i]?.getD 0 = 0 := (by rw [List.getElem?_replicate]; split <;> rfl); intro h; apply h; simp [e]) ?_ | refine cbF rfl (by have e : (List.replicate m (0 : UInt8))[i]?.getD 0 = 0 := (by rw [List.getElem?_replicate]; split <;> rfl); intro h; apply h; simp [e]) ?_   -- test 2
      refine sk ?_
      refine in_n ?_
      refine then_n ?_
      refine rg ?_
      refine add rfl rfl (by first | exact w_i64 (by omega) | exact w_i64 (rng_i64 _) | rfl) rfl ?_
      refine mv (v := .int .i64 _) rfl rfl ?_
      refine nl ?_
      refine loop_n ?_
      exact ⟨i + 1, (by (try dsimp only); omega), ⟨by omega, H⟩, (fC (by first | rfl | exact congrArg (Value.int _) (by omega)) (fN _)), (by repeat (first | exact Agree.setL rfl Agree.mask | refine Agree.upd rfl ?_ | refine Agree.setL rfl ?_ | refine Agree.mask2 rfl ?_))⟩
    · refine ex ?_
      refine then_e ?_
      refine loop_e ?_
      refine in_hit rfl ?_
      refine then_n ?_
      refine sq ?_
      refine rg ?_
      refine asg (v := .bool _) rfl rfl ?_
      refine nl ?_
      refine then_n ?_
      refine rt ?_
      refine fin_r ?_
      exact ⟨rfl, H.fr⟩

end Go.Proofs.Ytbldfojecpljoaa.X
