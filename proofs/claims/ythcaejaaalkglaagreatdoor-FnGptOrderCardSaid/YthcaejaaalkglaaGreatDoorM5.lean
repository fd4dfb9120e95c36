/- Laws and walks on the road to the statement: P11, P12, P13, P14, Dec16, P15, P16, GptArr, P17. -/
import Derived.Test.YthcaejaaalkglaaGreatDoorM4
/- Walks of functions, printed by a program of this claim. -/
namespace Go.Proofs.YthcaejaaalkglaaGreatDoor.X
set_option linter.unusedVariables false
set_option linter.unusedSimpArgs false
open Go Go.RowKit

namespace PF
theorem bo137 : buildOK Tryz.prog 137 = true := by kernel_rfl
theorem bo76 : buildOK Tryz.prog 76 = true := by kernel_rfl
theorem cc135 : Tryz.prog.concrete 135 = true := by kernel_rfl
theorem fo76_0 : fieldOff Tryz.prog 76 0 = some 0 := by kernel_rfl
theorem pl137_0 : placeOf Tryz.prog 137 0 = some (0, 1) := by kernel_rfl
theorem pl76_0 : placeOf Tryz.prog 76 0 = some (0, 1) := by kernel_rfl
theorem ze137 : zeroL Tryz.prog 137 = some [.string ⟨#[]⟩] := by kernel_rfl
theorem ze76 : zeroL Tryz.prog 76 = some [.slice none 0 0, .int .i64 0, .bool false, .slice none 0 0] := by kernel_rfl
end PF
open PF

set_option maxRecDepth 100000 in
set_option maxHeartbeats 1000000 in
theorem c_errNew (w : World) (s : List UInt8) : Calls Tryz.prog 50 #[.string (str s)] w (Ret fun v w' => (∃ b, v = .iface 135 (.pointer (some ⟨b, 0, none⟩))) ∧ Fr [] w w') := by
 refine enter (fun ρ => ρ 2) Tryz.func50 rfl rfl rfl (res1 rfl) ?_
 have H := SH.nil w
 refine sq ?_
 refine rg ?_
 refine asg (v := .nilIface) rfl rfl ?_
 refine nl ?_
 refine then_n ?_
 refine sq ?_
 refine rg ?_
 refine mv (v := .string _) rfl rfl ?_
 refine bu (out := ?o1) ze137 bo137 ?f1 rfl ?_
 case f1 =>
  refine FL.one (v := .string _) rfl pl137_0 rfl (by first | decide | simp) ?_
  exact FL.nil
 refine bx (v := .agg _) H rfl rfl rfl ?_
 clear H; intro b1 w1 hb1 H _
 refine mi (v := .pointer _) rfl cc135 rfl ?_
 refine asg (v := .iface _ _) rfl rfl ?_
 refine nl ?_
 refine then_n ?_
 refine rt ?_
 refine fin_r ?_
 exact ⟨⟨_, rfl⟩, H.fr⟩

set_option maxRecDepth 100000 in
set_option maxHeartbeats 1000000 in
theorem c_secAsked (w : World) (s : Nat) (hs : s ≤ 1000000) : Calls Tryz.prog 47 #[.int .i64 (s : Int)] w (Ret fun v w' => v = .bool (decide (512 ≤ s ∧ s ≤ 4096)) ∧ Fr [] w w') := by
 refine enter (fun ρ => ρ 2) Tryz.func47 rfl rfl rfl (res1 rfl) ?_
 have H := SH.nil w
 refine sq ?_
 refine rg ?_
 refine asg (v := .bool _) rfl rfl ?_
 refine nl ?_
 refine then_n ?_
 refine sq ?_
 refine rg ?_
 refine mv (v := .int .i64 _) rfl rfl ?_
 refine geq rfl rfl rfl ?_
 refine mv (v := .bool _) rfl rfl ?_
 refine spd (t := 5) rfl (fun hg1 => ?_) (fun hg1 => ?_)
 ·refine gy rfl ?_
  refine mv (v := .int .i64 _) rfl rfl ?_
  refine gy rfl ?_
  refine leq rfl rfl rfl ?_
  refine pkT (v := .bool _) rfl rfl rfl ?_
  refine asg (v := .bool _) rfl rfl ?_
  refine nl ?_
  refine then_n ?_
  refine rt ?_
  refine fin_r ?_
  exact ⟨congrArg Value.bool (by first | (rw [decide_eq_true (by omega)]; done) | (rw [decide_eq_false (by omega)]; done) | (apply decide_eq_decide.2; omega)), H.fr⟩
 ·refine gn rfl rfl ?_
  refine gn rfl rfl ?_
  refine pkF (v := .bool _) rfl rfl rfl ?_
  refine asg (v := .bool _) rfl rfl ?_
  refine nl ?_
  refine then_n ?_
  refine rt ?_
  refine fin_r ?_
  exact ⟨congrArg Value.bool (by first | (rw [decide_eq_true (by omega)]; done) | (rw [decide_eq_false (by omega)]; done) | (apply decide_eq_decide.2; omega)), H.fr⟩

set_option maxRecDepth 100000 in
set_option maxHeartbeats 1000000 in
theorem c_memoryOf (w : World) (s : List UInt8) (hs : s.length ≤ 100000000) : Calls Tryz.prog 30 #[.string (str s)] w (Ret fun v w' => ∃ b d c, v = .pointer (some ⟨b, 0, none⟩) ∧ s.length ≤ c ∧ SH w [] w' [⟨b, .cells [.slice (some ⟨d, 0, none⟩) s.length c, .int .i64 0, .bool false, .slice none 0 0].toArray 76 (0, 0), true⟩, ⟨d, .cells (Bs (s ++ List.replicate (c - s.length) 0)).toArray 5 (c, c + 1), true⟩]) := by
 refine enter (fun ρ => ρ 2) Tryz.func30 rfl rfl rfl (res1 rfl) ?_
 have H := SH.nil w
 refine sq ?_
 refine rg ?_
 refine asg (v := .pointer _) rfl rfl ?_
 refine nl ?_
 refine then_n ?_
 refine sq ?_
 refine rg ?_
 refine mv (v := .string _) rfl rfl ?_
 refine cvSB H rfl Tryz.underlying9 Tryz.underlying30 Tryz.underlying5 rfl ?_
 clear H; intro b1 cp1 w1 hb1 hcp1 H _
 refine bu (out := ?o1) ze76 bo76 ?f1 rfl ?_
 case f1 =>
  refine FL.one (v := .slice _ _ _) rfl pl76_0 rfl (by first | decide | simp) ?_
  exact FL.nil
 refine bx (v := .agg _) H rfl rfl rfl ?_
 clear H; intro b2 w2 hb2 H _
 refine asg (v := .pointer _) rfl rfl ?_
 refine nl ?_
 refine then_n ?_
 refine rt ?_
 refine fin_r ?_
 exact ⟨_, _, _, rfl, by assumption, H⟩

set_option maxRecDepth 100000 in
set_option maxHeartbeats 1000000 in
theorem c_readAt (w : World) (bm bd b2 L c k o n c2 : Nat) (T2 : TypeId) (ds bs : List UInt8) (hm : w.cell? ⟨bm, 0, none⟩ = some (.slice (some ⟨bd, 0, none⟩) L c)) (hd : RB w (some ⟨bd, 0, none⟩) L ds) (h2 : w.heap[b2]? = some (.cells (Bs bs).toArray T2 (0, 0))) (hne : b2 ≠ bm ∧ b2 ≠ bd) (hk : k + n ≤ L) (hLc : L ≤ c) (hn : 0 < n) (hn2 : o + n ≤ bs.length) (hc : L ≤ 1000000000) : Calls Tryz.prog 120 #[.pointer (some ⟨bm, 0, none⟩), .slice (some ⟨b2, o, none⟩) n c2, .int .i64 (k : Int)] w (Ret fun v w' => v = .tuple #[.int .i64 (n : Int), .nilIface] ∧ Fr [b2] w w' ∧ w'.heap[b2]? = some (.cells (Bs (pAt bs o (pcs ds k n))).toArray T2 (0, 0))) := by
 refine enter (fun ρ => .tuple #[ρ 6, ρ 7]) Tryz.func120 rfl rfl rfl (res2 rfl) ?_
 have H := SH.rw1 h2
 have hdl := hd.1
 refine sq ?_
 refine rg ?_
 refine asg (v := .int .i64 _) rfl rfl ?_
 refine asg (v := .nilIface) rfl rfl ?_
 refine nl ?_
 refine then_n ?_
 refine sq ?_
 refine sq ?_
 refine rg ?_
 refine mv (v := .int .i64 _) rfl rfl ?_
 refine lss rfl rfl rfl ?_
 refine nl ?_
 refine then_n ?_
 refine cF rfl (by omega) ?_
 refine sk ?_
 refine then_n ?_
 refine sq ?_
 refine sq ?_
 refine rg ?_
 refine mv (v := .slice _ _ _) rfl rfl ?_
 refine lnS rfl Tryz.underlying30 rfl ?_
 refine eql rfl rfl rfl ?_
 refine nl ?_
 refine then_n ?_
 refine cF rfl (by omega) ?_
 refine sk ?_
 refine then_n ?_
 refine sq ?_
 refine sq ?_
 refine rg ?_
 refine mv (v := .int .i64 _) rfl rfl ?_
 refine mv (v := .pointer _) rfl rfl ?_
 refine nc rfl rfl ?_
 refine fa rfl fo76_0 rfl ?_
 refine lc rfl (H.fr.cell hm (by simp [Ne.symm hne.1])) sc30 rfl ?_
 refine lnS rfl Tryz.underlying30 rfl ?_
 refine geq rfl rfl rfl ?_
 refine nl ?_
 refine then_n ?_
 refine cF rfl (by omega) ?_
 refine sk ?_
 refine then_n ?_
 refine sq ?_
 refine rg ?_
 refine mv (v := .slice _ _ _) rfl rfl ?_
 refine mv (v := .pointer _) rfl rfl ?_
 refine nc rfl rfl ?_
 refine fa rfl fo76_0 rfl ?_
 refine lc rfl (H.fr.cell hm (by simp [Ne.symm hne.1])) sc30 rfl ?_
 refine mv (v := .int .i64 _) rfl rfl ?_
 refine sllN (0 + k) (L - k) (c - k) rfl rfl Tryz.underlying30 sz5_1 (by omega) (by omega) rfl ?_
 refine cpB (bs := ds.drop k) H rfl rfl Tryz.underlying30 sz5_1 ((hd.drop (k := k) (by omega)).now H.fr (by simp [Ne.symm hne.2])) (by omega) (by omega) rfl ?_
 clear H; intro w1 H _
 have hmin : min (L - k) n = n := by omega
 refine asg (v := .int .i64 _) rfl rfl ?_
 refine nl ?_
 refine then_n ?_
 refine sq ?_
 refine sq ?_
 refine rg ?_
 refine mv (v := .int .i64 _) rfl rfl ?_
 refine mv (v := .slice _ _ _) rfl rfl ?_
 refine lnS rfl Tryz.underlying30 rfl ?_
 refine lss rfl rfl rfl ?_
 refine nl ?_
 refine then_n ?_
 refine cF rfl (by omega) ?_
 refine sk ?_
 refine then_n ?_
 refine sq ?_
 refine rg ?_
 refine mv (v := .int .i64 _) rfl rfl ?_
 refine asg (v := .int .i64 _) rfl rfl ?_
 refine asg (v := .nilIface) rfl rfl ?_
 refine nl ?_
 refine then_n ?_
 refine rt ?_
 refine fin_r ?_
 have e := H.look (b := b2)
 refine ⟨?_, H.fr, ?_⟩
 ·show Value.tuple #[.int .i64 ((min (L - k) n : Nat) : Int), .nilIface] = _
  rw [hmin]
 rw [e, hmin]
 have e2 : (pcs ds k n).length = n := pcs_len (by omega)
 unfold pAt
 rw [e2]
 rfl

set_option maxRecDepth 100000 in
set_option maxHeartbeats 1000000 in
theorem c_getSig (w : World)  : Calls Tryz.prog 67 #[] w (Ret fun v w' => ∃ b, v = .slice (some ⟨b, 0, none⟩) 8 8 ∧ w.heap.size ≤ b ∧ w'.heap[b]? = some (.cells (Bs [69, 70, 73, 32, 80, 65, 82, 84]).toArray 5 (0, 0)) ∧ Fr [] w w') := by
 refine enter (fun ρ => ρ 0) Tryz.func67 rfl rfl rfl (res1 rfl) ?_
 have H := SH.nil w
 refine sq ?_
 refine rg ?_
 refine asg (v := .slice _ _ _) rfl rfl ?_
 refine nl ?_
 refine then_n ?_
 refine sq ?_
 refine rg ?_
 refine bsl (sz := 1) (out := ?o1) H Tryz.underlying30 ze5 sz5_1 (by decide) ?f1 rfl ?_
 case f1 =>
  refine FS.one (v := .int .u8 _) rfl rfl rfl (by first | decide | simp) ?_
  refine FS.one (v := .int .u8 _) rfl rfl rfl (by first | decide | simp) ?_
  refine FS.one (v := .int .u8 _) rfl rfl rfl (by first | decide | simp) ?_
  refine FS.one (v := .int .u8 _) rfl rfl rfl (by first | decide | simp) ?_
  refine FS.one (v := .int .u8 _) rfl rfl rfl (by first | decide | simp) ?_
  refine FS.one (v := .int .u8 _) rfl rfl rfl (by first | decide | simp) ?_
  refine FS.one (v := .int .u8 _) rfl rfl rfl (by first | decide | simp) ?_
  refine FS.one (v := .int .u8 _) rfl rfl rfl (by first | decide | simp) ?_
  exact FS.nil
 clear H; intro b1 w1 hb1 H F
 refine asg (v := .slice _ _ _) rfl rfl ?_
 refine nl ?_
 refine then_n ?_
 refine rt ?_
 refine fin_r ?_
 exact ⟨_, rfl, H.ge, H.look, H.fr⟩

set_option maxRecDepth 100000 in
set_option maxHeartbeats 1000000 in
theorem c_getRev (w : World)  : Calls Tryz.prog 68 #[] w (Ret fun v w' => ∃ b, v = .slice (some ⟨b, 0, none⟩) 4 4 ∧ w.heap.size ≤ b ∧ w'.heap[b]? = some (.cells (Bs [0, 0, 1, 0]).toArray 5 (0, 0)) ∧ Fr [] w w') := by
 refine enter (fun ρ => ρ 0) Tryz.func68 rfl rfl rfl (res1 rfl) ?_
 have H := SH.nil w
 refine sq ?_
 refine rg ?_
 refine asg (v := .slice _ _ _) rfl rfl ?_
 refine nl ?_
 refine then_n ?_
 refine sq ?_
 refine rg ?_
 refine bsl (sz := 1) (out := ?o1) H Tryz.underlying30 ze5 sz5_1 (by decide) ?f1 rfl ?_
 case f1 =>
  refine FS.one (v := .int .u8 _) rfl rfl rfl (by first | decide | simp) ?_
  refine FS.one (v := .int .u8 _) rfl rfl rfl (by first | decide | simp) ?_
  refine FS.one (v := .int .u8 _) rfl rfl rfl (by first | decide | simp) ?_
  refine FS.one (v := .int .u8 _) rfl rfl rfl (by first | decide | simp) ?_
  exact FS.nil
 clear H; intro b1 w1 hb1 H F
 refine asg (v := .slice _ _ _) rfl rfl ?_
 refine nl ?_
 refine then_n ?_
 refine rt ?_
 refine fin_r ?_
 exact ⟨_, rfl, H.ge, H.look, H.fr⟩

set_option maxRecDepth 100000 in
set_option maxHeartbeats 1000000 in
theorem c_getHs (w : World)  : Calls Tryz.prog 69 #[] w (Ret fun v w' => ∃ b, v = .slice (some ⟨b, 0, none⟩) 4 4 ∧ w.heap.size ≤ b ∧ w'.heap[b]? = some (.cells (Bs [92, 0, 0, 0]).toArray 5 (0, 0)) ∧ Fr [] w w') := by
 refine enter (fun ρ => ρ 0) Tryz.func69 rfl rfl rfl (res1 rfl) ?_
 have H := SH.nil w
 refine sq ?_
 refine rg ?_
 refine asg (v := .slice _ _ _) rfl rfl ?_
 refine nl ?_
 refine then_n ?_
 refine sq ?_
 refine rg ?_
 refine bsl (sz := 1) (out := ?o1) H Tryz.underlying30 ze5 sz5_1 (by decide) ?f1 rfl ?_
 case f1 =>
  refine FS.one (v := .int .u8 _) rfl rfl rfl (by first | decide | simp) ?_
  refine FS.one (v := .int .u8 _) rfl rfl rfl (by first | decide | simp) ?_
  refine FS.one (v := .int .u8 _) rfl rfl rfl (by first | decide | simp) ?_
  refine FS.one (v := .int .u8 _) rfl rfl rfl (by first | decide | simp) ?_
  exact FS.nil
 clear H; intro b1 w1 hb1 H F
 refine asg (v := .slice _ _ _) rfl rfl ?_
 refine nl ?_
 refine then_n ?_
 refine rt ?_
 refine fin_r ?_
 exact ⟨_, rfl, H.ge, H.look, H.fr⟩

set_option maxRecDepth 100000 in
set_option maxHeartbeats 1000000 in
theorem c_getZ (w : World)  : Calls Tryz.prog 70 #[] w (Ret fun v w' => ∃ b, v = .slice (some ⟨b, 0, none⟩) 4 4 ∧ w.heap.size ≤ b ∧ w'.heap[b]? = some (.cells (Bs [0, 0, 0, 0]).toArray 5 (0, 0)) ∧ Fr [] w w') := by
 refine enter (fun ρ => ρ 0) Tryz.func70 rfl rfl rfl (res1 rfl) ?_
 have H := SH.nil w
 refine sq ?_
 refine rg ?_
 refine asg (v := .slice _ _ _) rfl rfl ?_
 refine nl ?_
 refine then_n ?_
 refine sq ?_
 refine rg ?_
 refine bsl (sz := 1) (out := ?o1) H Tryz.underlying30 ze5 sz5_1 (by decide) ?f1 rfl ?_
 case f1 =>
  refine FS.one (v := .int .u8 _) rfl rfl rfl (by first | decide | simp) ?_
  refine FS.one (v := .int .u8 _) rfl rfl rfl (by first | decide | simp) ?_
  refine FS.one (v := .int .u8 _) rfl rfl rfl (by first | decide | simp) ?_
  refine FS.one (v := .int .u8 _) rfl rfl rfl (by first | decide | simp) ?_
  exact FS.nil
 clear H; intro b1 w1 hb1 H F
 refine asg (v := .slice _ _ _) rfl rfl ?_
 refine nl ?_
 refine then_n ?_
 refine rt ?_
 refine fin_r ?_
 exact ⟨_, rfl, H.ge, H.look, H.fr⟩

set_option maxRecDepth 100000 in
set_option maxHeartbeats 1000000 in
theorem c_getMs (w : World)  : Calls Tryz.prog 78 #[] w (Ret fun v w' => ∃ b, v = .slice (some ⟨b, 0, none⟩) 2 2 ∧ w.heap.size ≤ b ∧ w'.heap[b]? = some (.cells (Bs [85, 170]).toArray 5 (0, 0)) ∧ Fr [] w w') := by
 refine enter (fun ρ => ρ 0) Tryz.func78 rfl rfl rfl (res1 rfl) ?_
 have H := SH.nil w
 refine sq ?_
 refine rg ?_
 refine asg (v := .slice _ _ _) rfl rfl ?_
 refine nl ?_
 refine then_n ?_
 refine sq ?_
 refine rg ?_
 refine bsl (sz := 1) (out := ?o1) H Tryz.underlying30 ze5 sz5_1 (by decide) ?f1 rfl ?_
 case f1 =>
  refine FS.one (v := .int .u8 _) rfl rfl rfl (by first | decide | simp) ?_
  refine FS.one (v := .int .u8 _) rfl rfl rfl (by first | decide | simp) ?_
  exact FS.nil
 clear H; intro b1 w1 hb1 H F
 refine asg (v := .slice _ _ _) rfl rfl ?_
 refine nl ?_
 refine then_n ?_
 refine rt ?_
 refine fin_r ?_
 exact ⟨_, rfl, H.ge, H.look, H.fr⟩

set_option maxRecDepth 100000 in
set_option maxHeartbeats 1000000 in
theorem c_zeroU (w : World)  : Calls Tryz.prog 99 #[] w (Ret fun v w' => ∃ b, v = .slice (some ⟨b, 0, none⟩) 16 16 ∧ w.heap.size ≤ b ∧ w'.heap[b]? = some (.cells (Bs (List.replicate 16 0)).toArray 5 (0, 0)) ∧ Fr [] w w') := by
 refine enter (fun ρ => ρ 0) Tryz.func99 rfl rfl rfl (res1 rfl) ?_
 have H := SH.nil w
 refine sq ?_
 refine rg ?_
 refine asg (v := .slice _ _ _) rfl rfl ?_
 refine nl ?_
 refine then_n ?_
 refine sq ?_
 refine rg ?_
 refine mkB H rfl rfl Tryz.underlying30 mi5 (by omega) (by omega) (by omega) (by omega) rfl ?_
 clear H; intro b1 w1 hb1 H _
 refine asg (v := .slice _ _ _) rfl rfl ?_
 refine nl ?_
 refine then_n ?_
 refine rt ?_
 refine fin_r ?_
 exact ⟨_, rfl, H.ge, H.look, H.fr⟩

end Go.Proofs.YthcaejaaalkglaaGreatDoor.X

/- Walks of functions, printed by a program of this claim. -/
namespace Go.Proofs.YthcaejaaalkglaaGreatDoor.X
set_option linter.unusedVariables false
set_option linter.unusedSimpArgs false
open Go Go.RowKit

namespace PF
theorem ag106_15 : aggB Tryz.prog 106 15 = true := by kernel_rfl
theorem ag143_0 : aggB Tryz.prog 143 0 = true := by kernel_rfl
theorem bo106 : buildOK Tryz.prog 106 = true := by kernel_rfl
theorem ca50 : callable Tryz.prog 50 = true := by kernel_rfl
theorem ca66 : callable Tryz.prog 66 = true := by kernel_rfl
theorem ca67 : callable Tryz.prog 67 = true := by kernel_rfl
theorem ca68 : callable Tryz.prog 68 = true := by kernel_rfl
theorem ca69 : callable Tryz.prog 69 = true := by kernel_rfl
theorem ca70 : callable Tryz.prog 70 = true := by kernel_rfl
theorem ca73 : callable Tryz.prog 73 = true := by kernel_rfl
theorem ca75 : callable Tryz.prog 75 = true := by kernel_rfl
theorem ca86 : callable Tryz.prog 86 = true := by kernel_rfl
theorem ca91 : callable Tryz.prog 91 = true := by kernel_rfl
theorem ca92 : callable Tryz.prog 92 = true := by kernel_rfl
theorem ca93 : callable Tryz.prog 93 = true := by kernel_rfl
theorem ca94 : callable Tryz.prog 94 = true := by kernel_rfl
theorem pl106_10 : placeOf Tryz.prog 106 10 = some (10, 1) := by kernel_rfl
theorem pl106_11 : placeOf Tryz.prog 106 11 = some (11, 1) := by kernel_rfl
theorem pl106_12 : placeOf Tryz.prog 106 12 = some (12, 1) := by kernel_rfl
theorem pl106_13 : placeOf Tryz.prog 106 13 = some (13, 1) := by kernel_rfl
theorem pl106_3 : placeOf Tryz.prog 106 3 = some (3, 1) := by kernel_rfl
theorem pl106_6 : placeOf Tryz.prog 106 6 = some (6, 1) := by kernel_rfl
theorem pl106_7 : placeOf Tryz.prog 106 7 = some (7, 1) := by kernel_rfl
theorem pl106_8 : placeOf Tryz.prog 106 8 = some (8, 1) := by kernel_rfl
theorem pl106_9 : placeOf Tryz.prog 106 9 = some (9, 1) := by kernel_rfl
theorem ze106 : zeroL Tryz.prog 106 = some [.slice none 0 0, .int .i64 0, .int .i64 0, .string ⟨#[]⟩, .bool false, .bool false, .int .i64 0, .int .u32 0, .int .u64 0, .int .u32 0, .int .u64 0, .int .u64 0, .int .u64 0, .int .u64 0, .bool false] := by kernel_rfl
end PF
open PF

set_option maxRecDepth 100000 in
set_option maxHeartbeats 2000000 in
theorem c_readHdr (w : World) (q o n c : Nat) (T : TypeId) (bs : List UInt8) (hb : w.heap[q]? = some (.cells (Bs bs).toArray T (0, 0))) (hn : 92 ≤ n) (hc : n ≤ c) (ho : o + n ≤ bs.length) (hbl : bs.length ≤ 1000000000) : Calls Tryz.prog 81 #[.slice (some ⟨q, o, none⟩) n c] w (Ret fun v w' => Fr [q] w w' ∧ w'.heap[q]? = some (.cells (Bs (pAt bs (o + 16) [0, 0, 0, 0])).toArray T (0, 0)) ∧ ((hdrGood bs o = true ∧ ∃ p, v = .tuple #[.pointer (some ⟨p, 0, none⟩), .nilIface] ∧ w.heap.size ≤ p ∧ w'.heap[p]? = some (.cells [.slice none 0 0, .int .i64 0, .int .i64 0, .string (str (gT (pcs bs (o + 56) 16))), .bool false, .bool false, .int .i64 (fld bs (o + 80) 4), .int .u32 (fld bs (o + 84) 4), .int .u64 (fld bs (o + 72) 8), .int .u32 (fld bs (o + 88) 4), .int .u64 (fld bs (o + 24) 8), .int .u64 (fld bs (o + 32) 8), .int .u64 (fld bs (o + 40) 8), .int .u64 (fld bs (o + 48) 8), .bool false].toArray 106 (0, 0))) ∨ (hdrGood bs o = false ∧ ∃ e, v = .tuple #[.pointer none, .iface 135 e]))) := by
 refine enter (fun ρ => .tuple #[ρ 2, ρ 3]) Tryz.func81 rfl rfl rfl (res2 rfl) ?_
 have H := SH.rw1 hb
 have h92 : o + 92 ≤ bs.length := by omega
 have hp4 : (pcs bs (o + 16) 4).length = 4 := pcs_len (by omega)
 have hp16 : (pcs bs (o + 56) 16).length = 16 := pcs_len (by omega)
 have hcr := crc32_rng (zHdr (pcs bs o 92))
 have h80 : 0 ≤ leV (pcs bs (o + 80) 4) ∧ leV (pcs bs (o + 80) 4) ≤ 4294967295 := fld_rng (by decide)
 refine sq ?_
 refine rg ?_
 refine asg (v := .pointer _) rfl rfl ?_
 refine asg (v := .nilIface) rfl rfl ?_
 refine nl ?_
 refine then_n ?_
 refine sq ?_
 refine rg ?_
 refine mv (v := .slice _ _ _) rfl rfl ?_
 refine asg (v := .slice _ _ _) rfl rfl ?_
 refine nl ?_
 refine then_n ?_
 refine sq ?_
 refine rg ?_
 refine mv (v := .slice _ _ _) rfl rfl ?_
 refine sllhN (o + 0) (8) (c - 0) rfl rfl rfl Tryz.underlying30 sz5_1 (by omega) (by omega) rfl ?_
 refine asg (v := .slice _ _ _) rfl rfl ?_
 refine nl ?_
 refine then_n ?_
 refine sq ?_
 refine rg ?_
 refine mv (v := .slice _ _ _) rfl rfl ?_
 refine sllhN (o + 8) (4) (c - 8) rfl rfl rfl Tryz.underlying30 sz5_1 (by omega) (by omega) rfl ?_
 refine asg (v := .slice _ _ _) rfl rfl ?_
 refine nl ?_
 refine then_n ?_
 refine sq ?_
 refine rg ?_
 refine mv (v := .slice _ _ _) rfl rfl ?_
 refine sllhN (o + 12) (4) (c - 12) rfl rfl rfl Tryz.underlying30 sz5_1 (by omega) (by omega) rfl ?_
 refine asg (v := .slice _ _ _) rfl rfl ?_
 refine nl ?_
 refine then_n ?_
 refine sq ?_
 refine dr (by kernel_rfl) ?_
 have H := H.drew
 refine hold (fun _ => True) [] ?_
 refine tk (i := 1) rfl (by kernel_rfl) rfl trivial (fun _ _ => r_mv (v := .slice _ _ _) rfl) ?_
 refine tk (i := 2) rfl (by kernel_rfl) rfl trivial (fun _ _ => r_sllhN (o + 16) (4) (c - 16) rfl rfl rfl Tryz.underlying30 sz5_1 (by omega) (by omega)) ?_
 refine unfree ?_
 refine fo (i := 0) (by kernel_rfl) rfl rfl ?_
 refine mkB H rfl rfl Tryz.underlying30 mi5 (by omega) (by omega) (by omega) (by omega) rfl ?_
 clear H; intro b1 w1 hb1 H _
 refine nl ?_
 refine then_n ?_
 refine fo (i := 3) (by kernel_rfl) rfl rfl ?_
 refine apS (zs := [.int .u8 0]) (Bs (pcs bs (o + 16) 4)) (OR.made (n := 0) H (by decide) (by decide) rfl) rfl rfl Tryz.underlying30 ri5 (by rw [Bs_length, hp4]; rfl) (RB.cells (n := 4) (RB.of (b := q) (o := o + 16) (n := 4) H (by omega))) Bs_one (by simp) (by omega) (by unfold maxLen; omega) rfl ?_
 clear H; intro a9 cp9 w2 O
 obtain ⟨q9, cur, rfl, hn9, hcm, hcl, htk, H⟩ := O.blk
 obtain ⟨junk, hj⟩ := take_split (htk.trans (List.nil_append _))
 subst hj; clear htk
 refine nl ?_
 refine then_n ?_
 refine holdH H [] ?_
 refine tk (i := 4) rfl (by kernel_rfl) rfl H (fun w' H => r_asg (v := .slice _ _ _) rfl) ?_
 refine da (by kernel_rfl) ?_
 refine then_n ?_
 refine sq ?_
 refine rg ?_
 refine lw (vs := []) rfl ag143_0 rfl (by simp) rfl ?_
 refine mv (v := .slice _ _ _) rfl rfl ?_
 refine cl ca91 (c_uint32 _ _ _ _ (pcs bs (o + 16) 4) (RB.bj H hp4) rfl) rfl ?_
 rintro _ w3 ⟨rfl, F⟩
 replace H := H.keep F; clear F
 refine asg (v := .int .u32 _) rfl rfl ?_
 refine nl ?_
 refine then_n ?_
 refine sq ?_
 refine rg ?_
 refine mv (v := .slice _ _ _) rfl rfl ?_
 refine sllhN (o + 20) (4) (c - 20) rfl rfl rfl Tryz.underlying30 sz5_1 (by omega) (by omega) rfl ?_
 refine asg (v := .slice _ _ _) rfl rfl ?_
 refine nl ?_
 refine then_n ?_
 refine sq ?_
 refine dr (by kernel_rfl) ?_
 have H := H.drew
 refine hold (fun _ => True) [] ?_
 refine tk (i := 1) rfl (by kernel_rfl) rfl trivial (fun _ _ => r_mv (v := .slice _ _ _) rfl) ?_
 refine tk (i := 2) rfl (by kernel_rfl) rfl trivial (fun _ _ => r_sllhN (o + 24) (8) (c - 24) rfl rfl rfl Tryz.underlying30 sz5_1 (by omega) (by omega)) ?_
 refine unfree ?_
 refine holdH H [] ?_
 refine tk (i := 0) rfl (by kernel_rfl) rfl H (fun w' H => r_lw (vs := []) rfl ag143_0 rfl (by simp)) ?_
 refine fk (i := 3) (by kernel_rfl) rfl rfl rfl ?_
 refine cl ca92 (c_uint64 _ _ _ _ (pcs bs (o + 24) 8) (RB.of (b := q) (o := o + 24) (n := 8) H (by omega)) rfl) rfl ?_
 rintro _ w4 ⟨rfl, F⟩
 replace H := H.keep F; clear F
 refine nl ?_
 refine then_n ?_
 refine ⟨H, ?_⟩
 refine tk (i := 4) rfl (by kernel_rfl) rfl H (fun w' H => r_asg (v := .int .u64 _) rfl) ?_
 refine da (by kernel_rfl) ?_
 refine then_n ?_
 refine sq ?_
 refine dr (by kernel_rfl) ?_
 have H := H.drew
 refine hold (fun _ => True) [] ?_
 refine tk (i := 1) rfl (by kernel_rfl) rfl trivial (fun _ _ => r_mv (v := .slice _ _ _) rfl) ?_
 refine tk (i := 2) rfl (by kernel_rfl) rfl trivial (fun _ _ => r_sllhN (o + 32) (8) (c - 32) rfl rfl rfl Tryz.underlying30 sz5_1 (by omega) (by omega)) ?_
 refine unfree ?_
 refine holdH H [] ?_
 refine tk (i := 0) rfl (by kernel_rfl) rfl H (fun w' H => r_lw (vs := []) rfl ag143_0 rfl (by simp)) ?_
 refine fk (i := 3) (by kernel_rfl) rfl rfl rfl ?_
 refine cl ca92 (c_uint64 _ _ _ _ (pcs bs (o + 32) 8) (RB.of (b := q) (o := o + 32) (n := 8) H (by omega)) rfl) rfl ?_
 rintro _ w5 ⟨rfl, F⟩
 replace H := H.keep F; clear F
 refine nl ?_
 refine then_n ?_
 refine ⟨H, ?_⟩
 refine tk (i := 4) rfl (by kernel_rfl) rfl H (fun w' H => r_asg (v := .int .u64 _) rfl) ?_
 refine da (by kernel_rfl) ?_
 refine then_n ?_
 refine sq ?_
 refine dr (by kernel_rfl) ?_
 have H := H.drew
 refine hold (fun _ => True) [] ?_
 refine tk (i := 1) rfl (by kernel_rfl) rfl trivial (fun _ _ => r_mv (v := .slice _ _ _) rfl) ?_
 refine tk (i := 2) rfl (by kernel_rfl) rfl trivial (fun _ _ => r_sllhN (o + 40) (8) (c - 40) rfl rfl rfl Tryz.underlying30 sz5_1 (by omega) (by omega)) ?_
 refine unfree ?_
 refine holdH H [] ?_
 refine tk (i := 0) rfl (by kernel_rfl) rfl H (fun w' H => r_lw (vs := []) rfl ag143_0 rfl (by simp)) ?_
 refine fk (i := 3) (by kernel_rfl) rfl rfl rfl ?_
 refine cl ca92 (c_uint64 _ _ _ _ (pcs bs (o + 40) 8) (RB.of (b := q) (o := o + 40) (n := 8) H (by omega)) rfl) rfl ?_
 rintro _ w6 ⟨rfl, F⟩
 replace H := H.keep F; clear F
 refine nl ?_
 refine then_n ?_
 refine ⟨H, ?_⟩
 refine tk (i := 4) rfl (by kernel_rfl) rfl H (fun w' H => r_asg (v := .int .u64 _) rfl) ?_
 refine da (by kernel_rfl) ?_
 refine then_n ?_
 refine sq ?_
 refine dr (by kernel_rfl) ?_
 have H := H.drew
 refine hold (fun _ => True) [] ?_
 refine tk (i := 1) rfl (by kernel_rfl) rfl trivial (fun _ _ => r_mv (v := .slice _ _ _) rfl) ?_
 refine tk (i := 2) rfl (by kernel_rfl) rfl trivial (fun _ _ => r_sllhN (o + 48) (8) (c - 48) rfl rfl rfl Tryz.underlying30 sz5_1 (by omega) (by omega)) ?_
 refine unfree ?_
 refine holdH H [] ?_
 refine tk (i := 0) rfl (by kernel_rfl) rfl H (fun w' H => r_lw (vs := []) rfl ag143_0 rfl (by simp)) ?_
 refine fk (i := 3) (by kernel_rfl) rfl rfl rfl ?_
 refine cl ca92 (c_uint64 _ _ _ _ (pcs bs (o + 48) 8) (RB.of (b := q) (o := o + 48) (n := 8) H (by omega)) rfl) rfl ?_
 rintro _ w7 ⟨rfl, F⟩
 replace H := H.keep F; clear F
 refine nl ?_
 refine then_n ?_
 refine ⟨H, ?_⟩
 refine tk (i := 4) rfl (by kernel_rfl) rfl H (fun w' H => r_asg (v := .int .u64 _) rfl) ?_
 refine da (by kernel_rfl) ?_
 refine then_n ?_
 refine sq ?_
 refine rg ?_
 refine mv (v := .slice _ _ _) rfl rfl ?_
 refine sllhN (o + 56) (16) (c - 56) rfl rfl rfl Tryz.underlying30 sz5_1 (by omega) (by omega) rfl ?_
 refine cl ca73 (c_toUUID _ (some ⟨q, o + 56, none⟩) 16 _ (pcs bs (o + 56) 16) (RB.of (b := q) (o := o + 56) (n := 16) H (by omega)) rfl (by omega) ⟨_, _, rfl⟩) rfl ?_
 rintro _ w8 ⟨b2, cq2, jk2, rfl, hb2, ho2, F⟩
 replace H := H.new F hb2 ho2; clear F ho2
 refine cl ca93 (c_fromBytes _ _ _ _ (permB (pcs bs (o + 56) 16)) (RB.bj H (permB_len _)) rfl) rfl ?_
 rintro _ w9 ⟨rfl, F⟩
 replace H := H.keep F; clear F
 refine mv (v := .tuple _) rfl rfl ?_
 refine xt rfl rfl rfl ?_
 refine xt rfl rfl rfl ?_
 refine al H ze138 rfl ?_
 clear H; intro b3 w10 hb3 H _
 refine sa (cs' := Bs (permB (pcs bs (o + 56) 16))) H rfl rfl ag138_16 (by rw [Bs_length, permB_len]) (List.all_eq_true.2 Bs_one) (by decide) (by omega) (List.append_nil _) ?_
 clear H; intro w91 H _
 refine asg (v := .nilIface) rfl rfl ?_
 refine nl ?_
 refine then_n ?_
 refine sq ?_
 refine sq ?_
 refine rg ?_
 refine mv (v := .nilIface) rfl rfl ?_
 refine neqI0 rfl Tryz.underlying73 rfl ?_
 refine nl ?_
 refine then_n ?_
 refine cbF rfl rfl ?_
 refine sk ?_
 refine then_n ?_
 refine sq ?_
 refine dr (by kernel_rfl) ?_
 have H := H.drew
 refine hold (fun _ => True) [] ?_
 refine tk (i := 1) rfl (by kernel_rfl) rfl trivial (fun _ _ => r_mv (v := .slice _ _ _) rfl) ?_
 refine tk (i := 2) rfl (by kernel_rfl) rfl trivial (fun _ _ => r_sllhN (o + 72) (8) (c - 72) rfl rfl rfl Tryz.underlying30 sz5_1 (by omega) (by omega)) ?_
 refine unfree ?_
 refine holdH H [] ?_
 refine tk (i := 0) rfl (by kernel_rfl) rfl H (fun w' H => r_lw (vs := []) rfl ag143_0 rfl (by simp)) ?_
 refine fk (i := 3) (by kernel_rfl) rfl rfl rfl ?_
 refine cl ca92 (c_uint64 _ _ _ _ (pcs bs (o + 72) 8) (RB.of (b := q) (o := o + 72) (n := 8) H (by omega)) rfl) rfl ?_
 rintro _ w11 ⟨rfl, F⟩
 replace H := H.keep F; clear F
 refine nl ?_
 refine then_n ?_
 refine ⟨H, ?_⟩
 refine tk (i := 4) rfl (by kernel_rfl) rfl H (fun w' H => r_asg (v := .int .u64 _) rfl) ?_
 refine da (by kernel_rfl) ?_
 refine then_n ?_
 refine sq ?_
 refine dr (by kernel_rfl) ?_
 have H := H.drew
 refine hold (fun _ => True) [] ?_
 refine tk (i := 1) rfl (by kernel_rfl) rfl trivial (fun _ _ => r_mv (v := .slice _ _ _) rfl) ?_
 refine tk (i := 2) rfl (by kernel_rfl) rfl trivial (fun _ _ => r_sllhN (o + 80) (4) (c - 80) rfl rfl rfl Tryz.underlying30 sz5_1 (by omega) (by omega)) ?_
 refine unfree ?_
 refine holdH H [] ?_
 refine tk (i := 0) rfl (by kernel_rfl) rfl H (fun w' H => r_lw (vs := []) rfl ag143_0 rfl (by simp)) ?_
 refine fk (i := 3) (by kernel_rfl) rfl rfl rfl ?_
 refine cl ca91 (c_uint32 _ _ _ _ (pcs bs (o + 80) 4) (RB.of (b := q) (o := o + 80) (n := 4) H (by omega)) rfl) rfl ?_
 rintro _ w12 ⟨rfl, F⟩
 replace H := H.keep F; clear F
 refine nl ?_
 refine then_n ?_
 refine ⟨H, ?_⟩
 refine tk (i := 4) rfl (by kernel_rfl) rfl H (fun w' H => r_asg (v := .int .u32 _) rfl) ?_
 refine da (by kernel_rfl) ?_
 refine then_n ?_
 refine sq ?_
 refine dr (by kernel_rfl) ?_
 have H := H.drew
 refine hold (fun _ => True) [] ?_
 refine tk (i := 1) rfl (by kernel_rfl) rfl trivial (fun _ _ => r_mv (v := .slice _ _ _) rfl) ?_
 refine tk (i := 2) rfl (by kernel_rfl) rfl trivial (fun _ _ => r_sllhN (o + 84) (4) (c - 84) rfl rfl rfl Tryz.underlying30 sz5_1 (by omega) (by omega)) ?_
 refine unfree ?_
 refine holdH H [] ?_
 refine tk (i := 0) rfl (by kernel_rfl) rfl H (fun w' H => r_lw (vs := []) rfl ag143_0 rfl (by simp)) ?_
 refine fk (i := 3) (by kernel_rfl) rfl rfl rfl ?_
 refine cl ca91 (c_uint32 _ _ _ _ (pcs bs (o + 84) 4) (RB.of (b := q) (o := o + 84) (n := 4) H (by omega)) rfl) rfl ?_
 rintro _ w13 ⟨rfl, F⟩
 replace H := H.keep F; clear F
 refine nl ?_
 refine then_n ?_
 refine ⟨H, ?_⟩
 refine tk (i := 4) rfl (by kernel_rfl) rfl H (fun w' H => r_asg (v := .int .u32 _) rfl) ?_
 refine da (by kernel_rfl) ?_
 refine then_n ?_
 refine sq ?_
 refine dr (by kernel_rfl) ?_
 have H := H.drew
 refine hold (fun _ => True) [] ?_
 refine tk (i := 1) rfl (by kernel_rfl) rfl trivial (fun _ _ => r_mv (v := .slice _ _ _) rfl) ?_
 refine tk (i := 2) rfl (by kernel_rfl) rfl trivial (fun _ _ => r_sllhN (o + 88) (4) (c - 88) rfl rfl rfl Tryz.underlying30 sz5_1 (by omega) (by omega)) ?_
 refine unfree ?_
 refine holdH H [] ?_
 refine tk (i := 0) rfl (by kernel_rfl) rfl H (fun w' H => r_lw (vs := []) rfl ag143_0 rfl (by simp)) ?_
 refine fk (i := 3) (by kernel_rfl) rfl rfl rfl ?_
 refine cl ca91 (c_uint32 _ _ _ _ (pcs bs (o + 88) 4) (RB.of (b := q) (o := o + 88) (n := 4) H (by omega)) rfl) rfl ?_
 rintro _ w14 ⟨rfl, F⟩
 replace H := H.keep F; clear F
 refine nl ?_
 refine then_n ?_
 refine ⟨H, ?_⟩
 refine tk (i := 4) rfl (by kernel_rfl) rfl H (fun w' H => r_asg (v := .int .u32 _) rfl) ?_
 refine da (by kernel_rfl) ?_
 refine then_n ?_
 refine sq ?_
 refine rg ?_
 refine mv (v := .slice _ _ _) rfl rfl ?_
 refine sllhN (o + 16) (4) (c - 16) rfl rfl rfl Tryz.underlying30 sz5_1 (by omega) (by omega) rfl ?_
 refine bsl (sz := 1) (out := ?o1) H Tryz.underlying30 ze5 sz5_1 (by decide) ?f1 rfl ?_
 case f1 =>
  refine FS.one (v := .int .u8 _) rfl rfl rfl (by first | decide | simp) ?_
  refine FS.one (v := .int .u8 _) rfl rfl rfl (by first | decide | simp) ?_
  refine FS.one (v := .int .u8 _) rfl rfl rfl (by first | decide | simp) ?_
  refine FS.one (v := .int .u8 _) rfl rfl rfl (by first | decide | simp) ?_
  exact FS.nil
 clear H; intro b4 w15 hb4 H F
 refine cpP (bs := [0, 0, 0, 0]) H rfl rfl Tryz.underlying30 sz5_1 (RB.allL [0, 0, 0, 0] H rfl) (by decide) (by omega) (by omega) rfl ?_
 clear H; intro w16 H _ hlen
 refine nl ?_
 refine then_n ?_
 refine sq ?_
 refine sq ?_
 refine rg ?_
 refine mv (v := .slice _ _ _) rfl rfl ?_
 refine cl ca67 (c_getSig _) rfl ?_
 rintro _ w17 ⟨b5, rfl, hb5, ho5, F⟩
 replace H := H.new F hb5 ho5; clear F ho5
 refine cl ca94 (c_bytesEqual _ _ _ _ _ _ _ (pcs bs (o + 0) 8) efiL (by have e := RB.of (b := q) (o := o + 0) (n := 8) H (by rw [zero_len h92]; omega); rw [zero_lt h92 (by omega)] at e; exact e) (RB.allL efiL H rfl)) rfl ?_
 rintro _ w18 ⟨rfl, F⟩
 replace H := H.keep F; clear F
 refine unot rfl rfl ?_
 refine nl ?_
 refine then_n ?_
 refine cn rfl (fun hc2 => ?_) (fun hc2 => ?_)
 ·refine sq ?_
  refine rg ?_
  refine cl ca50 (c_errNew _ _) rfl ?_
  rintro _ w19 ⟨⟨be6, rfl⟩, F⟩
  replace H := H.keep F; clear F
  refine asg (v := .pointer _) rfl rfl ?_
  refine asg (v := .iface _ _) rfl rfl ?_
  refine nl ?_
  refine then_n ?_
  refine rt ?_
  refine then_r ?_
  refine fin_r ?_
  refine ⟨H.fr, H.look, .inr ⟨?_, _, rfl⟩⟩
  unfold hdrGood sigOk crcOk
  simp only [Nat.add_zero] at *
  simp_all [fld]
 ·refine sk ?_
  refine then_n ?_
  refine sq ?_
  refine sq ?_
  refine rg ?_
  refine mv (v := .slice _ _ _) rfl rfl ?_
  refine cl ca68 (c_getRev _) rfl ?_
  rintro _ w20 ⟨b7, rfl, hb7, ho7, F⟩
  replace H := H.new F hb7 ho7; clear F ho7
  refine cl ca94 (c_bytesEqual _ _ _ _ _ _ _ (pcs bs (o + 8) 4) [0, 0, 1, 0] (by have e := RB.of (b := q) (o := o + 8) (n := 4) H (by rw [zero_len h92]; omega); rw [zero_lt h92 (by omega)] at e; exact e) (RB.allL [0, 0, 1, 0] H rfl)) rfl ?_
  rintro _ w21 ⟨rfl, F⟩
  replace H := H.keep F; clear F
  refine unot rfl rfl ?_
  refine nl ?_
  refine then_n ?_
  refine cn rfl (fun hc3 => ?_) (fun hc3 => ?_)
  ·refine sq ?_
   refine rg ?_
   refine cl ca50 (c_errNew _ _) rfl ?_
   rintro _ w22 ⟨⟨be8, rfl⟩, F⟩
   replace H := H.keep F; clear F
   refine asg (v := .pointer _) rfl rfl ?_
   refine asg (v := .iface _ _) rfl rfl ?_
   refine nl ?_
   refine then_n ?_
   refine rt ?_
   refine then_r ?_
   refine fin_r ?_
   refine ⟨H.fr, H.look, .inr ⟨?_, _, rfl⟩⟩
   unfold hdrGood sigOk crcOk
   simp only [Nat.add_zero] at *
   simp_all [fld]
  ·refine sk ?_
   refine then_n ?_
   refine sq ?_
   refine sq ?_
   refine rg ?_
   refine mv (v := .slice _ _ _) rfl rfl ?_
   refine cl ca69 (c_getHs _) rfl ?_
   rintro _ w23 ⟨b9, rfl, hb9, ho9, F⟩
   replace H := H.new F hb9 ho9; clear F ho9
   refine cl ca94 (c_bytesEqual _ _ _ _ _ _ _ (pcs bs (o + 12) 4) [92, 0, 0, 0] (by have e := RB.of (b := q) (o := o + 12) (n := 4) H (by rw [zero_len h92]; omega); rw [zero_lt h92 (by omega)] at e; exact e) (RB.allL [92, 0, 0, 0] H rfl)) rfl ?_
   rintro _ w24 ⟨rfl, F⟩
   replace H := H.keep F; clear F
   refine unot rfl rfl ?_
   refine nl ?_
   refine then_n ?_
   refine cn rfl (fun hc4 => ?_) (fun hc4 => ?_)
   ·refine sq ?_
    refine rg ?_
    refine cl ca50 (c_errNew _ _) rfl ?_
    rintro _ w25 ⟨⟨be10, rfl⟩, F⟩
    replace H := H.keep F; clear F
    refine asg (v := .pointer _) rfl rfl ?_
    refine asg (v := .iface _ _) rfl rfl ?_
    refine nl ?_
    refine then_n ?_
    refine rt ?_
    refine then_r ?_
    refine fin_r ?_
    refine ⟨H.fr, H.look, .inr ⟨?_, _, rfl⟩⟩
    unfold hdrGood sigOk crcOk
    simp only [Nat.add_zero] at *
    simp_all [fld]
   ·refine sk ?_
    refine then_n ?_
    refine sq ?_
    refine sq ?_
    refine rg ?_
    refine mv (v := .slice _ _ _) rfl rfl ?_
    refine cl ca70 (c_getZ _) rfl ?_
    rintro _ w26 ⟨b11, rfl, hb11, ho11, F⟩
    replace H := H.new F hb11 ho11; clear F ho11
    refine cl ca94 (c_bytesEqual _ _ _ _ _ _ _ (pcs bs (o + 20) 4) [0, 0, 0, 0] (by have e := RB.of (b := q) (o := o + 20) (n := 4) H (by rw [zero_len h92]; omega); rw [zero_gt h92 (by omega)] at e; exact e) (RB.allL [0, 0, 0, 0] H rfl)) rfl ?_
    rintro _ w27 ⟨rfl, F⟩
    replace H := H.keep F; clear F
    refine unot rfl rfl ?_
    refine nl ?_
    refine then_n ?_
    refine cn rfl (fun hc5 => ?_) (fun hc5 => ?_)
    ·refine sq ?_
     refine rg ?_
     refine cl ca50 (c_errNew _ _) rfl ?_
     rintro _ w28 ⟨⟨be12, rfl⟩, F⟩
     replace H := H.keep F; clear F
     refine asg (v := .pointer _) rfl rfl ?_
     refine asg (v := .iface _ _) rfl rfl ?_
     refine nl ?_
     refine then_n ?_
     refine rt ?_
     refine then_r ?_
     refine fin_r ?_
     refine ⟨H.fr, H.look, .inr ⟨?_, _, rfl⟩⟩
     unfold hdrGood sigOk crcOk
     simp only [Nat.add_zero] at *
     simp_all [fld]
    ·refine sk ?_
     refine then_n ?_
     refine sq ?_
     refine rg ?_
     refine mv (v := .slice _ _ _) rfl rfl ?_
     refine sllhN (o + 0) (92) (c - 0) rfl rfl rfl Tryz.underlying30 sz5_1 (by omega) (by omega) rfl ?_
     refine cl ca75 (c_zzCrc _ _ _ _ (zHdr (pcs bs o 92)) (by have e := RB.of (b := q) (o := o + 0) (n := 92) H (by rw [zero_len h92]; omega); rw [Nat.add_zero, zero_all h92] at e; exact e) (by decide)) rfl ?_
     rintro _ w29 ⟨rfl, F⟩
     replace H := H.keep F; clear F
     refine asg (v := .int .u32 _) rfl rfl ?_
     refine nl ?_
     refine then_n ?_
     refine sq ?_
     refine sq ?_
     refine rg ?_
     refine mv (v := .int .u32 _) rfl rfl ?_
     refine mv (v := .int .u32 _) rfl rfl ?_
     refine neq rfl rfl rfl ?_
     refine nl ?_
     refine then_n ?_
     refine cd rfl (fun hc6 => ?_) (fun hc6 => ?_)
     ·refine sq ?_
      refine rg ?_
      refine cl ca50 (c_errNew _ _) rfl ?_
      rintro _ w30 ⟨⟨be13, rfl⟩, F⟩
      replace H := H.keep F; clear F
      refine asg (v := .pointer _) rfl rfl ?_
      refine asg (v := .iface _ _) rfl rfl ?_
      refine nl ?_
      refine then_n ?_
      refine rt ?_
      refine then_r ?_
      refine fin_r ?_
      refine ⟨H.fr, H.look, .inr ⟨?_, _, rfl⟩⟩
      unfold hdrGood sigOk crcOk
      simp only [Nat.add_zero] at *
      simp_all [fld]
      exact decide_eq_false (fun h => hc6 h.symm)
     ·refine sk ?_
      refine then_n ?_
      refine sq ?_
      refine rg ?_
      refine mv (v := .int .u32 _) rfl rfl ?_
      refine mv (v := .int .u64 _) rfl rfl ?_
      refine mv (v := .int .u64 _) rfl rfl ?_
      refine mv (v := .int .u64 _) rfl rfl ?_
      refine mv (v := .int .u64 _) rfl rfl ?_
      refine mv (v := .int .u32 _) rfl rfl ?_
      refine cvi rfl rfl Tryz.underlying3 (by first | exact w_i64 (by omega) | exact w_i64 (rng_i64 _) | rfl) rfl ?_
      refine mv (v := .int .u64 _) rfl rfl ?_
      refine la (vs := Bs (permB (pcs bs (o + 56) 16))) H rfl ag138_16 (by rw [Bs_length, permB_len]) (by rw [List.drop_zero, List.take_of_length_le (by rw [Bs_length, permB_len]; decide)]) rfl ?_
      refine cl ca66 (c_uuString _ _ (permB_len _)) rfl ?_
      rintro _ w31 ⟨rfl, F⟩
      replace H := H.keep F; clear F
      refine cl ca86 (c_upper _ _ (by have := sTp_len (permB (pcs bs (o + 56) 16)) 16; unfold sT; omega)) rfl ?_
      rintro _ w32 ⟨rfl, F⟩
      replace H := H.keep F; clear F
      rw [up_sT hp16]
      refine mv (v := .int .u32 _) rfl rfl ?_
      refine bu (out := ?o2) ze106 bo106 ?f2 rfl ?_
      case f2 =>
       refine FL.one (v := .int .u32 _) rfl pl106_7 rfl (by first | decide | simp) ?_
       refine FL.one (v := .int .u64 _) rfl pl106_10 rfl (by first | decide | simp) ?_
       refine FL.one (v := .int .u64 _) rfl pl106_11 rfl (by first | decide | simp) ?_
       refine FL.one (v := .int .u64 _) rfl pl106_12 rfl (by first | decide | simp) ?_
       refine FL.one (v := .int .u64 _) rfl pl106_13 rfl (by first | decide | simp) ?_
       refine FL.one (v := .int .i64 _) rfl pl106_6 rfl (by first | decide | simp) ?_
       refine FL.one (v := .int .u64 _) rfl pl106_8 rfl (by first | decide | simp) ?_
       refine FL.one (v := .string _) rfl pl106_3 rfl (by first | decide | simp) ?_
       refine FL.one (v := .int .u32 _) rfl pl106_9 rfl (by first | decide | simp) ?_
       exact FL.nil
      refine al H ze106 rfl ?_
      clear H; intro b14 w33 hb14 H _
      refine sa H rfl rfl ag106_15 rfl rfl (by decide) (by omega) rfl ?_
      clear H; intro w34 H _
      refine nl ?_
      refine then_n ?_
      refine sq ?_
      refine rg ?_
      refine asg (v := .pointer _) rfl rfl ?_
      refine asg (v := .nilIface) rfl rfl ?_
      refine nl ?_
      refine then_n ?_
      refine rt ?_
      refine fin_r ?_
      replace H := sh_cells0 (cs' := [.slice none 0 0, .int .i64 0, .int .i64 0, .string (str (gT (pcs bs (o + 56) 16))), .bool false, .bool false, .int .i64 (fld bs (o + 80) 4), .int .u32 (fld bs (o + 84) 4), .int .u64 (fld bs (o + 72) 8), .int .u32 (fld bs (o + 88) 4), .int .u64 (fld bs (o + 24) 8), .int .u64 (fld bs (o + 32) 8), .int .u64 (fld bs (o + 40) 8), .int .u64 (fld bs (o + 48) 8), .bool false]) H rfl
      refine ⟨H.fr, H.look, .inl ⟨?_, _, rfl, H.ge1 rfl (y := ⟨q, _, true⟩) (by repeat (first | exact .head _ | apply List.Mem.tail)) rfl, H.look⟩⟩
      unfold hdrGood sigOk crcOk
      simp only [Nat.add_zero] at *
      simp_all [fld]

end Go.Proofs.YthcaejaaalkglaaGreatDoor.X

/- Walks of functions, printed by a program of this claim. -/
namespace Go.Proofs.YthcaejaaalkglaaGreatDoor.X
set_option linter.unusedVariables false
set_option linter.unusedSimpArgs false
open Go Go.RowKit

namespace PF
theorem ca78 : callable Tryz.prog 78 = true := by kernel_rfl
theorem ca95 : callable Tryz.prog 95 = true := by kernel_rfl
end PF
open PF

set_option maxRecDepth 100000 in
set_option maxHeartbeats 1000000 in
theorem c_zeroMatch (w : World) (B : Option Addr) (n c : Nat) (xs : List UInt8) (hR : RB w B n xs) (hn : n ≤ 1000000000) : Calls Tryz.prog 95 #[.slice B n c] w (Ret fun v w' => v = .bool (zAll xs) ∧ Fr [] w w') := by
 refine enter (fun ρ => ρ 2) Tryz.func95 rfl rfl rfl (res1 rfl) ?_
 have H := SH.nil w
 have hRl := hR.1
 refine sq ?_
 refine rg ?_
 refine asg (v := .bool _) rfl rfl ?_
 refine nl ?_
 refine then_n ?_
 refine sq ?_
 refine sq ?_
 refine rg ?_
 refine mv (v := .slice _ _ _) rfl rfl ?_
 refine lnS rfl Tryz.underlying30 rfl ?_
 refine lss rfl rfl rfl ?_
 refine nl ?_
 refine then_n ?_
 refine cd rfl (fun hc1 => ?_) (fun hc1 => ?_)
 ·refine sq ?_
  refine rg ?_
  refine asg (v := .bool _) rfl rfl ?_
  refine nl ?_
  refine then_n ?_
  refine rt ?_
  refine then_r ?_
  refine fin_r ?_
  exact ⟨congrArg Value.bool (by unfold zAll; exact (decide_eq_true (fun j hj => by omega)).symm), H.fr⟩
 ·refine sk ?_
  refine then_n ?_
  refine sq ?_
  refine sq ?_
  refine rg ?_
  refine mv (v := .slice _ _ _) rfl rfl ?_
  refine lnS rfl Tryz.underlying30 rfl ?_
  refine mv (v := .int .i64 _) rfl rfl ?_
  refine nl ?_
  refine then_n ?_
  refine bk ?_
  refine lpM (α := Nat) [2, 4, 10, 11, 12, 13, 14, 15, 16] (fun i => [(10, .int .i64 (i : Int))]) (fun i w' => i ≤ n ∧ (∀ j, j < i → (xs.getD j 0).toNat = 0) ∧ SH w [] w' []) (fun i => n - i) 0 ?_ (fC (by first | rfl | exact congrArg (Value.int _) (by first | omega | assumption | (symm; assumption) | (simp; done) | (simp; omega)) | exact congrArg (fun n => Value.slice _ n _) (by first | omega | (simp; done) | (simp; omega))) (fN _)) ?_
  ·exact ⟨by omega, fun j hj => by omega, H⟩
  ·rintro i ρx w1 ⟨hi, hz, H⟩
   refine sq ?_
   refine rg ?_
   refine lss rfl rfl rfl ?_
   refine nl ?_
   refine then_n ?_
   refine sq ?_
   refine cd rfl (fun hc2 => ?_) (fun hc2 => ?_)
   ·obtain ⟨ad, rfl, hcell⟩ := hR.2 i (by omega)
    have hcell := H.fr.cell hcell (by simp)
    refine sk ?_
    refine then_n ?_
    refine sq ?_
    refine bk ?_
    refine sq ?_
    refine rg ?_
    refine iA rfl rfl Tryz.underlying30 sz5_1 (by omega) rfl ?_
    refine lc rfl (by first | assumption | exact H.fr.cell (by assumption) (by simp)) sc5 rfl ?_
    refine asg (v := .int .u8 _) rfl rfl ?_
    refine nl ?_
    refine then_n ?_
    refine sq ?_
    refine rg ?_
    refine mv (v := .int .u8 _) rfl rfl ?_
    refine neq rfl rfl rfl ?_
    refine nl ?_
    refine then_n ?_
    refine cd rfl (fun hc3 => ?_) (fun hc3 => ?_)
    ·refine sq ?_
     refine rg ?_
     refine asg (v := .bool _) rfl rfl ?_
     refine nl ?_
     refine then_n ?_
     refine rt ?_
     refine in_r ?_
     refine then_r ?_
     refine loop_r ?_
     refine in_r ?_
     refine then_r ?_
     refine fin_r ?_
     exact ⟨congrArg Value.bool (by unfold zAll; exact (decide_eq_false (fun h => by have := h i (by omega); omega)).symm), H.fr⟩
    ·refine sk ?_
     refine in_n ?_
     refine then_n ?_
     refine rg ?_
     refine add rfl rfl (by first | exact w_i64 (by omega) | exact w_i64 (rng_i64 _) | rfl) rfl ?_
     refine mv (v := .int .i64 _) rfl rfl ?_
     refine nl ?_
     refine loop_n ?_
     exact ⟨i + 1, (by (try dsimp only); omega), ⟨by omega, zAll_next hz (by omega), H⟩, (fC (by first | rfl | exact congrArg (Value.int _) (by first | omega | assumption | (symm; assumption) | (simp; done) | (simp; omega)) | exact congrArg (fun n => Value.slice _ n _) (by first | omega | (simp; done) | (simp; omega))) (fN _)), (by repeat (first | exact Agree.setL rfl Agree.mask | exact Agree.self _ _ | refine Agree.upd rfl ?_ | refine Agree.setL rfl ?_ | refine Agree.mask2 rfl ?_))⟩
   ·refine ex ?_
    refine then_e ?_
    refine loop_e ?_
    refine in_hit rfl ?_
    refine then_n ?_
    refine sq ?_
    refine rg ?_
    refine asg (v := .bool _) rfl rfl ?_
    refine nl ?_
    refine then_n ?_
    refine rt ?_
    refine fin_r ?_
    exact ⟨congrArg Value.bool (by unfold zAll; exact (decide_eq_true (fun j hj => hz j (by omega))).symm), H.fr⟩

set_option maxRecDepth 100000 in
set_option maxHeartbeats 1000000 in
theorem c_readProt (w : World) (q o c : Nat) (bs : List UInt8) (m : Int) (hR : RB w (some ⟨q, o, none⟩) 512 bs) (hc : 512 ≤ c) : Calls Tryz.prog 82 #[.slice (some ⟨q, o, none⟩) 512 c, .int .u32 m] w (Ret fun v w' => v = .bool (protB bs m) ∧ Fr [] w w') := by
 refine enter (fun ρ => ρ 4) Tryz.func82 rfl rfl rfl (res1 rfl) ?_
 have H := SH.nil w
 have hRl := hR.1
 have h446 := hR.at 446 (by decide)
 rw [Addr.add_lit] at h446
 have h450 := hR.at 450 (by decide)
 rw [Addr.add_lit] at h450
 refine sq ?_
 refine rg ?_
 refine asg (v := .bool _) rfl rfl ?_
 refine nl ?_
 refine then_n ?_
 refine sq ?_
 refine rg ?_
 refine mv (v := .slice _ _ _) rfl rfl ?_
 refine lnS rfl Tryz.underlying30 rfl ?_
 refine asg (v := .int .i64 _) rfl rfl ?_
 refine nl ?_
 refine then_n ?_
 refine sq ?_
 refine sq ?_
 refine rg ?_
 refine mv (v := .int .i64 _) rfl rfl ?_
 refine lss rfl rfl rfl ?_
 refine nl ?_
 refine then_n ?_
 refine cF rfl (by omega) ?_
 refine sk ?_
 refine then_n ?_
 refine sq ?_
 refine sq ?_
 refine dr (by kernel_rfl) ?_
 have H := H.drew
 refine hold (fun _ => True) [] ?_
 refine tk (i := 0) rfl (by kernel_rfl) rfl trivial (fun _ _ => r_mv (v := .slice _ _ _) rfl) ?_
 refine tk (i := 1) rfl (by kernel_rfl) rfl trivial (fun _ _ => r_mv (v := .int .i64 _) rfl) ?_
 refine tk (i := 2) rfl (by kernel_rfl) rfl trivial (fun _ _ => r_sub rfl rfl (by first | exact w_i64 (by omega) | exact w_i64 (rng_i64 _) | rfl)) ?_
 refine tk (i := 3) rfl (by kernel_rfl) rfl trivial (fun _ _ => r_sllN (o + 510) (2) (c - 510) rfl rfl Tryz.underlying30 sz5_1 (by omega) (by omega)) ?_
 refine unfree ?_
 refine fo (i := 4) (by kernel_rfl) rfl rfl ?_
 refine cl ca78 (c_getMs _) rfl ?_
 rintro _ w1 ⟨b1, rfl, hb1, ho1, F⟩
 replace H := H.new F hb1 ho1; clear F ho1
 refine nl ?_
 refine then_n ?_
 refine fo (i := 5) (by kernel_rfl) rfl rfl ?_
 refine cl ca94 (c_bytesEqual _ _ _ _ _ _ _ (pcs bs 510 2) [85, 170] (((hR.keep H.fr).drop (k := 510) (by decide)).take (k := 2) (by decide)) (RB.allL [85, 170] H rfl)) rfl ?_
 rintro _ w2 ⟨rfl, F⟩
 replace H := H.keep F; clear F
 refine nl ?_
 refine then_n ?_
 refine holdH H [] ?_
 refine tk (i := 6) rfl (by kernel_rfl) rfl H (fun w' H => r_unot rfl) ?_
 refine da (by kernel_rfl) ?_
 refine then_n ?_
 refine cn rfl (fun hc2 => ?_) (fun hc2 => ?_)
 ·refine sq ?_
  refine rg ?_
  refine asg (v := .bool _) rfl rfl ?_
  refine nl ?_
  refine then_n ?_
  refine rt ?_
  refine then_r ?_
  refine fin_r ?_
  refine ⟨congrArg Value.bool ?_, H.fr⟩
  unfold protB
  have e : pcs bs 510 2 ≠ [85, 170] := by simpa using hc2
  rw [decide_eq_false e]; rfl
 ·refine sk ?_
  refine then_n ?_
  refine sq ?_
  refine rg ?_
  refine mv (v := .slice _ _ _) rfl rfl ?_
  refine sllhN (o + 446) (64) (c - 446) rfl rfl rfl Tryz.underlying30 sz5_1 (by omega) (by omega) rfl ?_
  refine asg (v := .slice _ _ _) rfl rfl ?_
  refine nl ?_
  refine then_n ?_
  refine sq ?_
  refine sq ?_
  refine rg ?_
  refine asg (v := .int .i64 _) rfl rfl ?_
  refine nl ?_
  refine then_n ?_
  refine bk ?_
  refine lpM (α := Nat) [4, 7, 21, 22, 23, 24, 25, 26, 27, 28, 29, 30, 31, 32, 33] (fun i => [(7, .int .i64 (i : Int))]) (fun i w' => 1 ≤ i ∧ i ≤ 4 ∧ (∀ j, j + 1 < i → zAll (pcs bs (462 + 16 * j) 16) = true) ∧ SH w [] w' []) (fun i => 4 - i) 1 ?_ (fC (by first | rfl | exact congrArg (Value.int _) (by first | omega | assumption | (symm; assumption) | (simp; done) | (simp; omega)) | exact congrArg (fun n => Value.slice _ n _) (by first | omega | (simp; done) | (simp; omega))) (fN _)) ?_
  ·exact ⟨by omega, by omega, fun j h1 => by omega, H.sub (by repeat (first | exact List.Sublist.refl _ | exact List.nil_sublist _ | apply List.Sublist.cons_cons | apply List.Sublist.cons))⟩
  ·rintro i ρx w3 ⟨hi1, hi, hz, H⟩
   refine sq ?_
   refine sq ?_
   refine rg ?_
   refine mv (v := .int .i64 _) rfl rfl ?_
   refine lss rfl rfl rfl ?_
   refine nl ?_
   refine then_n ?_
   refine cd rfl (fun hc3 => ?_) (fun hc3 => ?_)
   ·refine sk ?_
    refine then_n ?_
    refine sq ?_
    refine bk ?_
    refine sq ?_
    refine rg ?_
    refine mv (v := .slice _ _ _) rfl rfl ?_
    refine mv (v := .int .i64 _) rfl rfl ?_
    refine mul rfl rfl (by first | exact w_i64 (by omega) | exact w_i64 (rng_i64 _) | rfl) rfl ?_
    refine mv (v := .int .i64 _) rfl rfl ?_
    refine add rfl rfl (by first | exact w_i64 (by omega) | exact w_i64 (rng_i64 _) | rfl) rfl ?_
    refine mul rfl rfl (by first | exact w_i64 (by omega) | exact w_i64 (rng_i64 _) | rfl) rfl ?_
    refine sllhN (o + (446 + 16 * i)) (16) (c - (446 + 16 * i)) rfl rfl rfl Tryz.underlying30 sz5_1 (by omega) (by omega) rfl ?_
    refine cl ca95 (c_zeroMatch _ (some ⟨q, o + (446 + 16 * i), none⟩) 16 _ (pcs bs (446 + 16 * i) 16) (((hR.keep H.fr).drop (k := 446 + 16 * i) (by omega)).take (k := 16) (by omega)) (by decide)) rfl ?_
    rintro _ w4 ⟨rfl, F⟩
    replace H := H.keep F; clear F
    refine unot rfl rfl ?_
    refine nl ?_
    refine then_n ?_
    refine cn rfl (fun hc4 => ?_) (fun hc4 => ?_)
    ·refine sq ?_
     refine rg ?_
     refine asg (v := .bool _) rfl rfl ?_
     refine nl ?_
     refine then_n ?_
     refine rt ?_
     refine in_r ?_
     refine then_r ?_
     refine loop_r ?_
     refine in_r ?_
     refine then_r ?_
     refine fin_r ?_
     refine ⟨congrArg Value.bool ?_, H.fr⟩
     unfold protB
     rw [rec3_f ⟨by omega, by omega⟩ (by simpa using hc4)]; simp
    ·refine sk ?_
     refine in_n ?_
     refine then_n ?_
     refine rg ?_
     refine mv (v := .int .i64 _) rfl rfl ?_
     refine add rfl rfl (by first | exact w_i64 (by omega) | exact w_i64 (rng_i64 _) | rfl) rfl ?_
     refine asg (v := .int .i64 _) rfl rfl ?_
     refine nl ?_
     refine loop_n ?_
     exact ⟨i + 1, (by (try dsimp only); omega), ⟨by omega, by omega, zRec_next hz (by simpa using hc4), H⟩, (fC (by first | rfl | exact congrArg (Value.int _) (by first | omega | assumption | (symm; assumption) | (simp; done) | (simp; omega)) | exact congrArg (fun n => Value.slice _ n _) (by first | omega | (simp; done) | (simp; omega))) (fN _)), (by repeat (first | exact Agree.setL rfl Agree.mask | exact Agree.self _ _ | refine Agree.upd rfl ?_ | refine Agree.setL rfl ?_ | refine Agree.mask2 rfl ?_))⟩
   ·refine ex ?_
    refine then_e ?_
    refine loop_e ?_
    refine in_hit rfl ?_
    refine then_n ?_
    refine sq ?_
    refine sq ?_
    refine rg ?_
    refine mv (v := .slice _ _ _) rfl rfl ?_
    refine iaN (o + 446) rfl rfl Tryz.underlying30 sz5_1 (by omega) (by omega) rfl ?_
    refine lc rfl (by first | assumption | exact H.fr.cell (by assumption) (by simp)) sc5 rfl ?_
    refine neq rfl rfl rfl ?_
    refine nl ?_
    refine then_n ?_
    refine cd rfl (fun hc5 => ?_) (fun hc5 => ?_)
    ·refine sq ?_
     refine rg ?_
     refine asg (v := .bool _) rfl rfl ?_
     refine nl ?_
     refine then_n ?_
     refine rt ?_
     refine then_r ?_
     refine fin_r ?_
     refine ⟨congrArg Value.bool ?_, H.fr⟩
     unfold protB
     rw [decide_eq_false (p := (bs.getD 446 0).toNat = 0) (by omega)]; simp
    ·refine sk ?_
     refine then_n ?_
     refine sq ?_
     refine sq ?_
     refine rg ?_
     refine mv (v := .slice _ _ _) rfl rfl ?_
     refine iaN (o + 450) rfl rfl Tryz.underlying30 sz5_1 (by omega) (by omega) rfl ?_
     refine lc rfl (by first | assumption | exact H.fr.cell (by assumption) (by simp)) sc5 rfl ?_
     refine neq rfl rfl rfl ?_
     refine nl ?_
     refine then_n ?_
     refine cd rfl (fun hc6 => ?_) (fun hc6 => ?_)
     ·refine sq ?_
      refine rg ?_
      refine asg (v := .bool _) rfl rfl ?_
      refine nl ?_
      refine then_n ?_
      refine rt ?_
      refine then_r ?_
      refine fin_r ?_
      refine ⟨congrArg Value.bool ?_, H.fr⟩
      unfold protB
      rw [decide_eq_false (p := (bs.getD 450 0).toNat = 238) (by omega)]; simp
     ·refine sk ?_
      refine then_n ?_
      refine sq ?_
      refine sq ?_
      refine dr (by kernel_rfl) ?_
      have H := H.drew
      refine hold (fun _ => True) [] ?_
      refine tk (i := 1) rfl (by kernel_rfl) rfl trivial (fun _ _ => r_mv (v := .slice _ _ _) rfl) ?_
      refine tk (i := 2) rfl (by kernel_rfl) rfl trivial (fun _ _ => r_sllhN (o + 454) (4) (c - 454) rfl rfl rfl Tryz.underlying30 sz5_1 (by omega) (by omega)) ?_
      refine unfree ?_
      refine holdH H [] ?_
      refine tk (i := 0) rfl (by kernel_rfl) rfl H (fun w' H => r_lw (vs := []) rfl ag143_0 rfl (by simp)) ?_
      refine fk (i := 3) (by kernel_rfl) rfl rfl rfl ?_
      refine cl ca91 (c_uint32 _ _ _ _ (pcs bs 454 4) (((hR.keep H.fr).drop (k := 454) (by decide)).take (k := 4) (by decide)) rfl) rfl ?_
      rintro _ w5 ⟨rfl, F⟩
      replace H := H.keep F; clear F
      refine nl ?_
      refine then_n ?_
      refine ⟨H, ?_⟩
      refine tk (i := 4) rfl (by kernel_rfl) rfl H (fun w' H => r_neq rfl rfl) ?_
      refine da (by kernel_rfl) ?_
      refine then_n ?_
      refine cd rfl (fun hc7 => ?_) (fun hc7 => ?_)
      ·refine sq ?_
       refine rg ?_
       refine asg (v := .bool _) rfl rfl ?_
       refine nl ?_
       refine then_n ?_
       refine rt ?_
       refine then_r ?_
       refine fin_r ?_
       refine ⟨congrArg Value.bool ?_, H.fr⟩
       unfold protB
       rw [decide_eq_false (p := fld bs 454 4 = 1) (by assumption)]; simp
      ·refine sk ?_
       refine then_n ?_
       refine sq ?_
       refine sq ?_
       refine dr (by kernel_rfl) ?_
       have H := H.drew
       refine hold (fun _ => True) [] ?_
       refine tk (i := 1) rfl (by kernel_rfl) rfl trivial (fun _ _ => r_mv (v := .slice _ _ _) rfl) ?_
       refine tk (i := 2) rfl (by kernel_rfl) rfl trivial (fun _ _ => r_sllhN (o + 458) (4) (c - 458) rfl rfl rfl Tryz.underlying30 sz5_1 (by omega) (by omega)) ?_
       refine tk (i := 4) rfl (by kernel_rfl) rfl trivial (fun _ _ => r_mv (v := .int .u32 _) rfl) ?_
       refine unfree ?_
       refine holdH H [] ?_
       refine tk (i := 0) rfl (by kernel_rfl) rfl H (fun w' H => r_lw (vs := []) rfl ag143_0 rfl (by simp)) ?_
       refine fk (i := 3) (by kernel_rfl) rfl rfl rfl ?_
       refine cl ca91 (c_uint32 _ _ _ _ (pcs bs 458 4) (((hR.keep H.fr).drop (k := 458) (by decide)).take (k := 4) (by decide)) rfl) rfl ?_
       rintro _ w6 ⟨rfl, F⟩
       replace H := H.keep F; clear F
       refine nl ?_
       refine then_n ?_
       refine ⟨H, ?_⟩
       refine tk (i := 5) rfl (by kernel_rfl) rfl H (fun w' H => r_neq rfl rfl) ?_
       refine da (by kernel_rfl) ?_
       refine then_n ?_
       refine cd rfl (fun hc8 => ?_) (fun hc8 => ?_)
       ·refine sq ?_
        refine rg ?_
        refine asg (v := .bool _) rfl rfl ?_
        refine nl ?_
        refine then_n ?_
        refine rt ?_
        refine then_r ?_
        refine fin_r ?_
        refine ⟨congrArg Value.bool ?_, H.fr⟩
        unfold protB
        rw [decide_eq_false (p := fld bs 458 4 = m) (by assumption)]; simp
       ·refine sk ?_
        refine then_n ?_
        refine sq ?_
        refine rg ?_
        refine asg (v := .bool _) rfl rfl ?_
        refine nl ?_
        refine then_n ?_
        refine rt ?_
        refine fin_r ?_
        refine ⟨congrArg Value.bool ?_, H.fr⟩
        unfold protB
        obtain rfl : i = 4 := by omega
        have e : pcs bs 510 2 = [85, 170] := by simpa using hc2
        have e1 : fld bs 454 4 = 1 := Classical.not_not.1 (by assumption)
        have e2 : fld bs 458 4 = m := Classical.not_not.1 (by assumption)
        rw [rec3_t hz, decide_eq_true e, decide_eq_true (p := (bs.getD 446 0).toNat = 0) (by omega), decide_eq_true (p := (bs.getD 450 0).toNat = 238) (by omega), decide_eq_true e1, decide_eq_true e2]; rfl

end Go.Proofs.YthcaejaaalkglaaGreatDoor.X

/- Walks of functions, printed by a program of this claim. -/
namespace Go.Proofs.YthcaejaaalkglaaGreatDoor.X
set_option linter.unusedVariables false
set_option linter.unusedSimpArgs false
open Go Go.RowKit

namespace PF
theorem ca81 : callable Tryz.prog 81 = true := by kernel_rfl
theorem ca82 : callable Tryz.prog 82 = true := by kernel_rfl
theorem fo106_1 : fieldOff Tryz.prog 106 1 = some 1 := by kernel_rfl
theorem fo106_11 : fieldOff Tryz.prog 106 11 = some 11 := by kernel_rfl
theorem fo106_14 : fieldOff Tryz.prog 106 14 = some 14 := by kernel_rfl
theorem fo106_2 : fieldOff Tryz.prog 106 2 = some 2 := by kernel_rfl
theorem fo106_4 : fieldOff Tryz.prog 106 4 = some 4 := by kernel_rfl
theorem fo106_6 : fieldOff Tryz.prog 106 6 = some 6 := by kernel_rfl
theorem fo106_7 : fieldOff Tryz.prog 106 7 = some 7 := by kernel_rfl
theorem fo106_8 : fieldOff Tryz.prog 106 8 = some 8 := by kernel_rfl
end PF
open PF

set_option maxRecDepth 100000 in
set_option maxHeartbeats 1000000 in
theorem c_tabFrom (w : World) (q n c : Nat) (T : TypeId) (bs : List UInt8) (hb : w.heap[q]? = some (.cells (Bs bs).toArray T (0, 0))) (hn : 1024 ≤ n) (hc : n ≤ c) (ho : n ≤ bs.length) (hbl : bs.length ≤ 1000000000) : Calls Tryz.prog 79 #[.slice (some ⟨q, 0, none⟩) n c, .int .i64 512, .int .i64 512] w (Ret fun v w' => Fr [q] w w' ∧ w'.heap[q]? = some (.cells (Bs (pAt bs 528 [0, 0, 0, 0])).toArray T (0, 0)) ∧ ∃ A e, v = .tuple #[.pointer A, e] ∧ Ifc e ∧ isIf e = !(hdrGood bs 512) ∧ (hdrGood bs 512 = true → ∃ p, A = some ⟨p, 0, none⟩ ∧ w.heap.size ≤ p ∧ w'.heap[p]? = some (.cells (tbC none 0 0 512 512 (gT (pcs bs 568 16)) (protB (pcs bs 0 512) (fld bs 544 8 % 4294967296)) false (fld bs 592 4) (fld bs 596 4) (fld bs 584 8) (fld bs 600 4) (fld bs 536 8) (fld bs 544 8) (fld bs 552 8) (fld bs 560 8) true).toArray 106 (0, 0)))) := by
 refine enter (fun ρ => .tuple #[ρ 6, ρ 7]) Tryz.func79 rfl rfl rfl (res2 rfl) ?_
 have H := SH.rw1 hb
 refine sq ?_
 refine rg ?_
 refine asg (v := .pointer _) rfl rfl ?_
 refine asg (v := .nilIface) rfl rfl ?_
 refine nl ?_
 refine then_n ?_
 refine sq ?_
 refine sq ?_
 refine rg ?_
 refine mv (v := .slice _ _ _) rfl rfl ?_
 refine lnS rfl Tryz.underlying30 rfl ?_
 refine mv (v := .int .i64 _) rfl rfl ?_
 refine mul rfl rfl (by first | exact w_i64 (by omega) | exact w_i64 (rng_i64 _) | rfl) rfl ?_
 refine lss rfl rfl rfl ?_
 refine nl ?_
 refine then_n ?_
 refine cF rfl (by omega) ?_
 refine sk ?_
 refine then_n ?_
 refine sq ?_
 refine rg ?_
 refine mv (v := .slice _ _ _) rfl rfl ?_
 refine mv (v := .int .i64 _) rfl rfl ?_
 refine sllN (512) (n - 512) (c - 512) rfl rfl Tryz.underlying30 sz5_1 (by omega) (by omega) rfl ?_
 refine asg (v := .slice _ _ _) rfl rfl ?_
 refine nl ?_
 refine then_n ?_
 refine sq ?_
 refine rg ?_
 refine mv (v := .slice _ _ _) rfl rfl ?_
 refine cl ca81 (c_readHdr _ q 512 (n - 512) (c - 512) _ bs (H.look (b := q)) (by omega) (by omega) (by omega) (by omega)) rfl ?_
 rintro _ w1 ⟨F, hnew, hres⟩
 obtain ⟨A9, e9, rfl, hie, hif, hok⟩ := two_res hres
 obtain ⟨H9, hlt⟩ := H.put2 F hnew
 clear H hres F hnew; have H := H9; clear H9
 refine mv (v := .tuple _) rfl rfl ?_
 refine xt rfl rfl rfl ?_
 refine xt rfl rfl rfl ?_
 refine asg (v := .pointer _) rfl rfl ?_
 refine asg rfl rfl ?_
 refine nl ?_
 refine then_n ?_
 refine sq ?_
 refine sq ?_
 refine rg ?_
 refine mv rfl rfl ?_
 refine neqIG rfl Tryz.underlying73 (by assumption) rfl ?_
 refine nl ?_
 refine then_n ?_
 refine cn rfl (fun hc2 => ?_) (fun hc2 => ?_)
 ·have hgd : hdrGood bs 512 = false := by have h9 := hif.symm.trans hc2; simpa using h9
  refine sq ?_
  refine rg ?_
  refine mv rfl rfl ?_
  refine asg (v := .pointer _) rfl rfl ?_
  refine asg rfl rfl ?_
  refine nl ?_
  refine then_n ?_
  refine rt ?_
  refine then_r ?_
  refine fin_r ?_
  exact ⟨H.fr, H.look, _, _, rfl, hie, hif, fun h => by rw [hgd] at h; cases h⟩
 ·have hgd : hdrGood bs 512 = true := by have h9 := hif.symm.trans hc2; simpa using h9
  obtain ⟨p, rfl, hp1, hp2⟩ := hok hgd
  replace H := H.add hlt hp1 hp2
  refine sk ?_
  refine then_n ?_
  refine sq ?_
  refine dr (by kernel_rfl) ?_
  have H := H.drew
  refine hold (fun _ => True) [] ?_
  refine tk (i := 0) rfl (by kernel_rfl) rfl trivial (fun _ _ => r_mv (v := .pointer _) rfl) ?_
  refine tk (i := 1) rfl (by kernel_rfl) rfl trivial (fun _ _ => r_mv (v := .slice _ _ _) rfl) ?_
  refine tk (i := 2) rfl (by kernel_rfl) rfl trivial (fun _ _ => r_mv (v := .int .i64 _) rfl) ?_
  refine tk (i := 3) rfl (by kernel_rfl) rfl trivial (fun _ _ => r_slhN (512) rfl rfl Tryz.underlying30 sz5_1 (by omega) (by omega)) ?_
  refine tk (i := 4) rfl (by kernel_rfl) rfl trivial (fun _ _ => r_mv (v := .pointer _) rfl) ?_
  refine tk (i := 5) rfl (by kernel_rfl) rfl trivial (fun _ _ => r_nc rfl) ?_
  refine tk (i := 6) rfl (by kernel_rfl) rfl trivial (fun _ _ => r_fa rfl fo106_11) ?_
  refine unfree ?_
  refine holdH H [12] ?_
  refine tk (i := 7) rfl (by kernel_rfl) rfl H (fun w' H => r_ld H rfl sc28 rfl) ?_
  refine tk (i := 8) rfl (by kernel_rfl) rfl H (fun w' H => r_cvi (c := fld bs 544 8 % 4294967296) rfl rfl Tryz.underlying58 (m_u32 _)) ?_
  refine fk (i := 9) (by kernel_rfl) rfl rfl rfl ?_
  refine cl ca82 (c_readProt _ q 0 c (pcs bs 0 512) (fld bs 544 8 % 4294967296) (by have e := RB.of (b := q) (o := 0) (n := 512) H (by rw [zero_len (o := 512) (by omega)]; omega); rw [zero_lt (o := 512) (by omega) (by omega)] at e; exact e) (by omega)) rfl ?_
  rintro _ w2 ⟨rfl, F⟩
  replace H := H.keep F; clear F
  refine nl ?_
  refine then_n ?_
  refine ⟨H, ?_⟩
  refine fk (i := 10) (by kernel_rfl) rfl rfl rfl ?_
  refine nc rfl rfl ?_
  refine nl ?_
  refine then_n ?_
  refine ⟨H, ?_⟩
  refine tk (i := 11) rfl (by kernel_rfl) rfl H (fun w' H => r_fa rfl fo106_4) ?_
  refine fb (i := 12) (by kernel_rfl) rfl rfl rfl ?_
  refine st (v := .bool _) H rfl rfl sc4 rfl (by first | decide | (simp only [List.length_set, List.length_cons, List.length_nil, List.length_replicate, List.length_append, Bs_length]; omega) | omega) (by omega) ?_
  clear H; intro w3 H _
  refine nl ?_
  refine then_n ?_
  refine dn (by kernel_rfl) ?_
  refine then_n ?_
  refine sq ?_
  refine rg ?_
  refine mv (v := .pointer _) rfl rfl ?_
  refine mv (v := .int .i64 _) rfl rfl ?_
  refine nc rfl rfl ?_
  refine fa rfl fo106_1 rfl ?_
  refine st (v := .int .i64 _) H rfl rfl sc3 rfl (by first | decide | (simp only [List.length_set, List.length_cons, List.length_nil, List.length_replicate, List.length_append, Bs_length]; omega) | omega) (by omega) ?_
  clear H; intro w4 H _
  refine nl ?_
  refine then_n ?_
  refine sq ?_
  refine rg ?_
  refine mv (v := .pointer _) rfl rfl ?_
  refine mv (v := .int .i64 _) rfl rfl ?_
  refine nc rfl rfl ?_
  refine fa rfl fo106_2 rfl ?_
  refine st (v := .int .i64 _) H rfl rfl sc3 rfl (by first | decide | (simp only [List.length_set, List.length_cons, List.length_nil, List.length_replicate, List.length_append, Bs_length]; omega) | omega) (by omega) ?_
  clear H; intro w5 H _
  refine nl ?_
  refine then_n ?_
  refine sq ?_
  refine rg ?_
  refine mv (v := .pointer _) rfl rfl ?_
  refine nc rfl rfl ?_
  refine fa rfl fo106_14 rfl ?_
  refine st (v := .bool _) H rfl rfl sc4 rfl (by first | decide | (simp only [List.length_set, List.length_cons, List.length_nil, List.length_replicate, List.length_append, Bs_length]; omega) | omega) (by omega) ?_
  clear H; intro w6 H _
  refine nl ?_
  refine then_n ?_
  refine sq ?_
  refine rg ?_
  refine mv (v := .pointer _) rfl rfl ?_
  refine asg (v := .pointer _) rfl rfl ?_
  refine asg (v := .nilIface) rfl rfl ?_
  refine nl ?_
  refine then_n ?_
  refine rt ?_
  refine fin_r ?_
  replace H := sh_cells0 (cs' := tbC none 0 0 512 512 (gT (pcs bs 568 16)) (protB (pcs bs 0 512) (fld bs 544 8 % 4294967296)) false (fld bs 592 4) (fld bs 596 4) (fld bs 584 8) (fld bs 600 4) (fld bs 536 8) (fld bs 544 8) (fld bs 552 8) (fld bs 560 8) true) H rfl
  exact ⟨H.fr, H.look, _, _, rfl, .inl rfl, by rw [hgd]; rfl, fun _ => ⟨_, rfl, H.ge1 rfl (y := ⟨q, _, true⟩) (by repeat (first | exact .head _ | apply List.Mem.tail)) rfl, H.look⟩⟩

set_option maxRecDepth 100000 in
set_option maxHeartbeats 1000000 in
theorem c_calcLoc (w : World) (p : Nat) (f s k e : Int) (h1 : w.cell? ⟨p, 1, none⟩ = some (.int .i64 s)) (h6 : w.cell? ⟨p, 6, none⟩ = some (.int .i64 k)) (h7 : w.cell? ⟨p, 7, none⟩ = some (.int .u32 e)) (h8 : w.cell? ⟨p, 8, none⟩ = some (.int .u64 f)) (hf : 0 ≤ f ∧ f ≤ 1000000000) (he : 0 ≤ e ∧ e ≤ 4294967295) (fs ke : Int) (hfs : f * s = fs) (hke : k * e = ke) (hfs2 : 0 ≤ fs ∧ fs ≤ 1000000000000) (hke2 : 0 ≤ ke ∧ ke ≤ 1000000000000) : Calls Tryz.prog 89 #[.pointer (some ⟨p, 0, none⟩)] w (Ret fun v w' => v = .tuple #[.int .i64 fs, .int .i64 ke] ∧ Fr [] w w') := by
 refine enter (fun ρ => .tuple #[ρ 2, ρ 3]) Tryz.func89 rfl rfl rfl (res2 rfl) ?_
 have H := SH.nil w
 refine sq ?_
 refine rg ?_
 refine asg (v := .int .i64 _) rfl rfl ?_
 refine asg (v := .int .i64 _) rfl rfl ?_
 refine nl ?_
 refine then_n ?_
 refine sq ?_
 refine dr (by kernel_rfl) ?_
 have H := H.drew
 refine hold (fun _ => True) [] ?_
 refine tk (i := 0) rfl (by kernel_rfl) rfl trivial (fun _ _ => r_mv (v := .pointer _) rfl) ?_
 refine tk (i := 1) rfl (by kernel_rfl) rfl trivial (fun _ _ => r_nc rfl) ?_
 refine tk (i := 2) rfl (by kernel_rfl) rfl trivial (fun _ _ => r_fa rfl fo106_8) ?_
 refine tk (i := 5) rfl (by kernel_rfl) rfl trivial (fun _ _ => r_mv (v := .pointer _) rfl) ?_
 refine tk (i := 6) rfl (by kernel_rfl) rfl trivial (fun _ _ => r_nc rfl) ?_
 refine tk (i := 7) rfl (by kernel_rfl) rfl trivial (fun _ _ => r_fa rfl fo106_1) ?_
 refine unfree ?_
 refine holdH H [] ?_
 refine tk (i := 3) rfl (by kernel_rfl) rfl H (fun w' H => r_lc rfl (by first | assumption | exact H.fr.cell (by assumption) (by simp)) sc28) ?_
 refine tk (i := 4) rfl (by kernel_rfl) rfl H (fun w' H => r_cvi rfl rfl Tryz.underlying3 (by first | exact w_i64 (by omega) | exact w_i64 (rng_i64 _) | rfl)) ?_
 refine tk (i := 8) rfl (by kernel_rfl) rfl H (fun w' H => r_lc rfl (by first | assumption | exact H.fr.cell (by assumption) (by simp)) sc3) ?_
 refine tk (i := 9) rfl (by kernel_rfl) rfl H (fun w' H => r_mul rfl rfl (by first | exact w_i64 (by omega) | exact w_i64 (rng_i64 _) | rfl)) ?_
 refine tk (i := 10) rfl (by kernel_rfl) rfl H (fun w' H => r_asg (v := .int .i64 _) rfl) ?_
 refine da (by kernel_rfl) ?_
 refine then_n ?_
 refine sq ?_
 refine dr (by kernel_rfl) ?_
 have H := H.drew
 refine hold (fun _ => True) [] ?_
 refine tk (i := 0) rfl (by kernel_rfl) rfl trivial (fun _ _ => r_mv (v := .pointer _) rfl) ?_
 refine tk (i := 1) rfl (by kernel_rfl) rfl trivial (fun _ _ => r_nc rfl) ?_
 refine tk (i := 2) rfl (by kernel_rfl) rfl trivial (fun _ _ => r_fa rfl fo106_6) ?_
 refine tk (i := 4) rfl (by kernel_rfl) rfl trivial (fun _ _ => r_mv (v := .pointer _) rfl) ?_
 refine tk (i := 5) rfl (by kernel_rfl) rfl trivial (fun _ _ => r_nc rfl) ?_
 refine tk (i := 6) rfl (by kernel_rfl) rfl trivial (fun _ _ => r_fa rfl fo106_7) ?_
 refine unfree ?_
 refine holdH H [] ?_
 refine tk (i := 3) rfl (by kernel_rfl) rfl H (fun w' H => r_lc rfl (by first | assumption | exact H.fr.cell (by assumption) (by simp)) sc3) ?_
 refine tk (i := 7) rfl (by kernel_rfl) rfl H (fun w' H => r_lc rfl (by first | assumption | exact H.fr.cell (by assumption) (by simp)) sc58) ?_
 refine tk (i := 8) rfl (by kernel_rfl) rfl H (fun w' H => r_cvi rfl rfl Tryz.underlying3 (by first | exact w_i64 (by omega) | exact w_i64 (rng_i64 _) | rfl)) ?_
 refine tk (i := 9) rfl (by kernel_rfl) rfl H (fun w' H => r_mul rfl rfl (by first | exact w_i64 (by omega) | exact w_i64 (rng_i64 _) | rfl)) ?_
 refine tk (i := 10) rfl (by kernel_rfl) rfl H (fun w' H => r_asg (v := .int .i64 _) rfl) ?_
 refine da (by kernel_rfl) ?_
 refine then_n ?_
 refine rt ?_
 refine fin_r ?_
 subst hfs hke; exact ⟨rfl, H.fr⟩

end Go.Proofs.YthcaejaaalkglaaGreatDoor.X

/- Units of sixteen bits as runes, and runes as bytes. -/
namespace Go.Proofs.YthcaejaaalkglaaGreatDoor.X
set_option linter.unusedVariables false
open Go Go.RowKit
/-- What utf16.Decode gives. -/
def dec16 : List Int → List Int
  | [] => []
  | u :: r => if u < 55296 ∨ 57344 ≤ u then u :: dec16 r else
    match r with
    | [] => [65533]
    | v :: r' => if u < 56320 ∧ 56320 ≤ v ∧ v < 57344 then ((u - 55296) * 1024 + (v - 56320) + 65536) :: dec16 r' else 65533 :: dec16 (v :: r')
theorem drop_at {us : List Int} {i : Nat} {u : Int} (h : us[i]? = some u) : us.drop i = u :: us.drop (i + 1) := by
  obtain ⟨hi, e⟩ := List.getElem?_eq_some_iff.1 h
  rw [List.drop_eq_getElem_cons hi, e]
theorem dec_A {us : List Int} {i : Nat} {u : Int} (h : us[i]? = some u) (hu : u < 55296 ∨ 57344 ≤ u) : dec16 (us.drop i) = u :: dec16 (us.drop (i + 1)) := by
  rw [drop_at h, dec16.eq_def]; simp only [if_pos hu]
theorem dec_B {us : List Int} {i : Nat} {u v : Int} (h : us[i]? = some u) (h2 : us[i + 1]? = some v) (hu : ¬ (u < 55296 ∨ 57344 ≤ u)) (hv : u < 56320 ∧ 56320 ≤ v ∧ v < 57344) : dec16 (us.drop i) = ((u - 55296) * 1024 + (v - 56320) + 65536) :: dec16 (us.drop (i + 2)) := by
  rw [drop_at h, drop_at h2, dec16.eq_def]; simp only [if_neg hu, if_pos hv]
theorem dec_C {us : List Int} {i : Nat} {u : Int} (h : us[i]? = some u) (hu : ¬ (u < 55296 ∨ 57344 ≤ u)) (hv : ∀ v, us[i + 1]? = some v → ¬ (u < 56320 ∧ 56320 ≤ v ∧ v < 57344)) : dec16 (us.drop i) = 65533 :: dec16 (us.drop (i + 1)) := by
  rw [drop_at h, dec16.eq_def]; simp only [if_neg hu]
  cases hd : us.drop (i + 1) with
  | nil => simp [dec16]
  | cons v r =>
    have h2 : us[i + 1]? = some v := by
      have := congrArg List.head? hd
      simpa using this
    simp only [if_neg (hv v h2)]
/-- Runes as bytes. -/
def encL (ns : List Int) : List UInt8 := ns.flatMap fun n => (Utf8.encode n).data.toList
theorem foldl_enc : ∀ (ns : List Int) (r : ByteArray), (ns.foldl (fun r n => r ++ Utf8.encode n) r).data.toList = r.data.toList ++ encL ns
  | [], r => by simp [encL]
  | n :: ns, r => by
    rw [List.foldl_cons, foldl_enc ns]
    simp [encL, ByteArray.data_append]
theorem rBytes_eq (ns : List Int) : rBytes ns ns.length = encL ns := by
  unfold rBytes runesBytes
  rw [List.take_length, foldl_enc]
  rfl
theorem or1024 {x y : Int} (hx : 0 ≤ x ∧ x < 1024) (hy : 0 ≤ y ∧ y < 1024) : bits .or .i32 (x * 1024) y = x * 1024 + y := by
  obtain ⟨a, rfl⟩ := Int.eq_ofNat_of_zero_le hx.1
  obtain ⟨b, rfl⟩ := Int.eq_ofNat_of_zero_le hy.1
  have e : bits .or .i32 ((a : Int) * 1024) (b : Int) = IntKind.i32.wrap ((BitVec.ofInt 32 ((a : Int) * 1024) ||| BitVec.ofInt 32 (b : Int)).toNat : Int) := rfl
  have h1 : (BitVec.ofInt 32 ((a : Int) * 1024)).toNat = a * 2 ^ 10 := by rw [BitVec.toNat_ofInt]; omega
  have h2 : (BitVec.ofInt 32 (b : Int)).toNat = b := by rw [BitVec.toNat_ofInt]; omega
  rw [e, BitVec.toNat_or, h1, h2, Nat.or_comm, or_shift (by omega), w_i32 (by omega)]
  omega
/-- The units of an entry's name, up to the first zero. -/
def unE (e : List UInt8) : List Int := (List.range 36).map fun j => fld e (56 + 2 * j) 2
def nmU (e : List UInt8) : List Int := (unE e).takeWhile fun u => decide (u ≠ 0)
def nmB (e : List UInt8) : List UInt8 := encL (dec16 (nmU e))
theorem unE_len (e : List UInt8) : (unE e).length = 36 := by simp [unE]
theorem unE_get {e : List UInt8} {j : Nat} (h : j < 36) : (unE e)[j]? = some (fld e (56 + 2 * j) 2) := by
  unfold unE; rw [List.getElem?_map, List.getElem?_range h]; rfl
theorem tw_self : ∀ {us : List Int}, (∀ u ∈ us, u ≠ 0) → us.takeWhile (fun u => decide (u ≠ 0)) = us
  | [], _ => rfl
  | u :: r, hz => by rw [List.takeWhile_cons, if_pos (decide_eq_true (hz u (by simp))), tw_self (us := r) fun v hv => hz v (by simp [hv])]
theorem tw_all {us : List Int} {j : Nat} (hz : ∀ u ∈ us.take j, u ≠ 0) (h : us.length ≤ j) : us.takeWhile (fun u => decide (u ≠ 0)) = us.take j := by
  rw [List.take_of_length_le h] at hz ⊢
  exact tw_self hz
theorem tw_at : ∀ {us : List Int} {j : Nat}, (∀ u ∈ us.take j, u ≠ 0) → us[j]? = some 0 → us.takeWhile (fun u => decide (u ≠ 0)) = us.take j
  | [], j, hz, h => by simp at h
  | u :: r, 0, hz, h => by simp at h; subst h; simp
  | u :: r, j + 1, hz, h => by
    have h1 : u ≠ 0 := hz u (by simp)
    rw [List.takeWhile_cons, if_pos (decide_eq_true h1), List.take_succ_cons, tw_at (us := r) (j := j) (fun v hv => hz v (by simp [hv])) (by simpa using h)]
theorem nmU_full {e : List UInt8} {j : Nat} (hz : ∀ u ∈ (unE e).take j, u ≠ 0) (h : 36 ≤ j) : nmU e = (unE e).take j := tw_all hz (by rw [unE_len]; exact h)
theorem nmU_at {e : List UInt8} {j : Nat} (hz : ∀ u ∈ (unE e).take j, u ≠ 0) (hj : j < 36) (h : fld e (56 + 2 * j) 2 = 0) : nmU e = (unE e).take j := tw_at hz (by rw [unE_get hj, h])
theorem nz_next {e : List UInt8} {j : Nat} (hz : ∀ u ∈ (unE e).take j, u ≠ 0) (hj : j < 36) (h : fld e (56 + 2 * j) 2 ≠ 0) : ∀ u ∈ (unE e).take (j + 1), u ≠ 0 := by
  rw [take_succ_get (unE_get hj)]
  intro u hu
  rcases List.mem_append.1 hu with hu | hu
  · exact hz u hu
  · simp at hu; subst hu; exact h
theorem unE_succ {e : List UInt8} {j : Nat} (hj : j < 36) : (unE e).take (j + 1) = (unE e).take j ++ [fld e (56 + 2 * j) 2] := take_succ_get (unE_get hj)
theorem take_unE_len {e : List UInt8} {j : Nat} (h : j ≤ 36) : ((unE e).take j).length = j := by rw [List.length_take, unE_len]; omega
theorem nmU_len (e : List UInt8) : (nmU e).length ≤ 36 := by
  have := (List.takeWhile_prefix (l := unE e) (fun u => decide (u ≠ 0))).length_le
  rw [unE_len] at this
  exact this
theorem fld_rng2 {ds : List UInt8} {o : Nat} : 0 ≤ fld ds o 2 ∧ fld ds o 2 ≤ 65535 := by
  have := leV_rng (pcs ds o 2)
  have hl : (pcs ds o 2).length ≤ 2 := by simp [pcs]; omega
  have h2 : ((256 ^ (pcs ds o 2).length : Nat) : Int) ≤ ((256 ^ 2 : Nat) : Int) := Int.ofNat_le.2 (Nat.pow_le_pow_right (by decide) hl)
  rw [Int.natCast_pow, Int.natCast_pow, show ((256 : Nat) : Int) = 256 from rfl, show (256 : Int) ^ 2 = 65536 by decide] at h2
  unfold fld; omega
theorem nmU_rng {e : List UInt8} : ∀ u ∈ nmU e, 0 ≤ u ∧ u ≤ 65535 := by
  intro u hu
  have h1 := (List.takeWhile_prefix (l := unE e) (fun u => decide (u ≠ 0))).subset hu
  unfold unE at h1
  obtain ⟨j, _, rfl⟩ := List.mem_map.1 h1
  exact fld_rng2
/-- A partition's cells, as the package has them. -/
def ptC (k st en sz : Int) (ty nm gu : List UInt8) (att : Int) : List Value := [.int .i64 k, .int .u64 st, .int .u64 en, .int .u64 sz, .string (str ty), .string (str nm), .string (str gu), .int .u64 att, .int .i64 512, .int .i64 512]
/-- An entry of the array that is in use, with its place. -/
def entC (k sz : Int) (e : List UInt8) : List Value := ptC k (fld e 32 8) (fld e 40 8) sz (gT (pcs e 0 16)) (nmB e) (gT (pcs e 16 16)) (fld e 48 8)
def freeE (e : List UInt8) : Bool := decide (pcs e 0 16 = List.replicate 16 0)
/-- A row of units. -/
def R16 (w : World) (A : Option Addr) (n : Nat) (us : List Int) : Prop := us.length = n ∧ ∀ i u, us[i]? = some u → ∃ ad, A = some ad ∧ w.cell? (ad.add i) = some (.int .u16 u)
theorem R16.keep {w w' : World} {A : Option Addr} {n : Nat} {us : List Int} (h : R16 w A n us) (f : Fr [] w w') : R16 w' A n us :=
  ⟨h.1, fun i u hu => by obtain ⟨ad, e, hc⟩ := h.2 i u hu; exact ⟨ad, e, f.cell hc (by simp)⟩⟩
theorem OR.r16 {e : TypeId} {w0 : World} {S : List Nat} {w : World} {L : List Ent} {A : Option Addr} {n cap : Nat} {us : List Int} (O : OR e 1 w0 S w L A n cap (us.map (Value.int .u16))) : R16 w A n us := by
  have hl : us.length = n := by have := O.len; simpa using this
  refine ⟨hl, fun i u hu => ?_⟩
  have hi := (List.getElem?_eq_some_iff.1 hu).1
  obtain ⟨ad, rfl⟩ := O.some_of (by omega)
  exact ⟨ad, rfl, O.one (by rw [List.getElem?_map, hu]; rfl)⟩
theorem R16.at {w : World} {ad : Addr} {n : Nat} {us : List Int} (h : R16 w (some ad) n us) {i : Nat} {u : Int} (hu : us[i]? = some u) : w.cell? (ad.add i) = some (.int .u16 u) := by
  obtain ⟨ad', e, hc⟩ := h.2 i u hu
  cases e; exact hc
theorem add_block (ad : Addr) (i : Nat) : (ad.add i).block = ad.block := by unfold Addr.add; split <;> rfl
theorem cell_lt {w : World} {ad : Addr} {i : Nat} {v : Value} (h : w.cell? (ad.add i) = some v) : ad.block < w.heap.size := by
  rcases Nat.lt_or_ge ad.block w.heap.size with h1 | h1
  · exact h1
  · exfalso
    have e : (ad.add i).block = ad.block := by unfold Addr.add; split <;> rfl
    unfold World.cell? at h
    rw [e, Array.getElem?_eq_none h1] at h
    simp at h
/-- A row that began with a block that is new to the first world. -/
theorem OR.under {e : TypeId} {sz : Nat} {w0 w w' : World} {L : List Ent} {b : Nat} {A : Option Addr} {n cap : Nat} {xs : List Value} (F : Fr [] w0 w) (hb : w0.heap.size ≤ b) (O : OR e sz w [b] w' L A n cap xs) : OR e sz w0 [] w' L A n cap xs := by
  have hfr : ∀ {L : List Ent}, SH w [b] w' L → SH w0 [] w' L := fun {L} H => by
    refine ⟨F.then H.fr (by simpa using hb), H.get, H.ap, fun x hx hm => ?_⟩
    rcases H.mu x hx hm with h | h
    · simp at h; exact .inr (by omega)
    · exact .inr (Nat.le_trans F.size h)
  refine ⟨O.len, hfr O.sh, ?_⟩
  rcases O.own with h | ⟨b', cur, h1, h2, h3, h4, h5, h6⟩
  · exact .inl h
  · exact .inr ⟨b', cur, h1, h2, h3, h4, h5, hfr h6⟩
section steps
variable {P : Program} {n : Nat} {ops : Array Oper} {Q : Post} {rest : List Oper} {ρ : Env} {w : World} {ty : TypeId} {pos : String} {af : Array Edge} {d : Nat}
theorem cvRO {w0 : World} {S : List Nat} {L : List Ent} {s t e : TypeId} {x : Operand} {A : Option Addr} {l c cap : Nat} {ns : List Int} (O : OR e 1 w0 S w L A l cap (ns.map (Value.int .i32))) (hx : ev ρ x = .slice A l c) (hs : P.underlying s = some (.slice e)) (he : P.underlying e = some (.int .i32)) (ht : P.underlying t = some .string) (hn : Nat.blt d n = true)
    (kk : wl P n ops Q rest (upd ρ d (.string (str (encL ns)))) w) : wl P n ops Q (⟨some d, .convert s t x, ty, pos, af, none⟩ :: rest) ρ w := by
  have hlen : ns.length = l := by have := O.len; simpa using this
  have hc := run_convert_runes_string (P := P) w s t e A l c hs he ht
  cases A with
  | none =>
    have h0 : l = 0 := by
      rcases O.own with ⟨_, h, _⟩ | ⟨b, cur, h, _⟩
      · exact h
      · cases h
    have hns : ns = [] := List.eq_nil_of_length_eq_zero (by omega)
    subst hns
    refine val rfl rfl hn ?_ kk
    subst h0
    simp [execOp, hx, hc, Conv.runesToString, encL]
    rfl
  | some ad =>
    have hload : (loadCells ad l).run P w = .ok (ns.map (Value.int .i32)).toArray w := by
      have := run_loadCells_list (P := P) w ad (ns.map (Value.int .i32)) (fun j v hj => O.one hj)
      rw [List.length_map, hlen] at this
      exact this
    have hr := run_runesToString (P := P) w ad l c ns hload
    refine val rfl rfl hn ?_ kk
    have e1 : str (encL ns) = runesBytes ns := by
      rw [← rBytes_eq, rBytes, List.take_length, str_data]
    rw [e1]
    simp [execOp, hx, hc, hr]
end steps
end Go.Proofs.YthcaejaaalkglaaGreatDoor.X

/- Walks of functions, printed by a program of this claim. -/
namespace Go.Proofs.YthcaejaaalkglaaGreatDoor.X
set_option linter.unusedVariables false
set_option linter.unusedSimpArgs false
open Go Go.RowKit

namespace PF
theorem ca102 : callable Tryz.prog 102 = true := by kernel_rfl
theorem ca103 : callable Tryz.prog 103 = true := by kernel_rfl
theorem mi21 : elemInfo Tryz.prog 21 = some (.int .i32 0, 4) := by kernel_rfl
theorem ri21 : rowInfo Tryz.prog 21 = some ([.int .i32 0], 4) := by kernel_rfl
theorem sz21_1 : sizeB Tryz.prog 21 1 = true := by kernel_rfl
theorem ze21 : zeroL Tryz.prog 21 = some [.int .i32 0] := by kernel_rfl
end PF
open PF

set_option maxRecDepth 100000 in
set_option maxHeartbeats 1000000 in
theorem c_decRune (w : World) (u1 u2 : Int) (hu : 55296 ≤ u1 ∧ u1 < 56320) (hv : 56320 ≤ u2 ∧ u2 < 57344) : Calls Tryz.prog 103 #[.int .i32 u1, .int .i32 u2] w (Ret fun v w' => v = .int .i32 ((u1 - 55296) * 1024 + (u2 - 56320) + 65536) ∧ Fr [] w w') := by
 refine enter (fun ρ => ρ 4) Tryz.func103 rfl rfl rfl (res1 rfl) ?_
 have H := SH.nil w
 refine sq ?_
 refine rg ?_
 refine asg (v := .int .i32 _) rfl rfl ?_
 refine nl ?_
 refine then_n ?_
 refine sq ?_
 refine sq ?_
 refine rg ?_
 refine mv (v := .int .i32 _) rfl rfl ?_
 refine leq rfl rfl rfl ?_
 refine mv (v := .bool _) rfl rfl ?_
 refine spT (t := 7) rfl (by omega) ?_
 refine gy rfl ?_
 refine mv (v := .int .i32 _) rfl rfl ?_
 refine gy rfl ?_
 refine lss rfl rfl rfl ?_
 refine pkT (v := .bool _) rfl rfl rfl ?_
 refine mv (v := .bool _) rfl rfl ?_
 refine spT (t := 11) rfl (by omega) ?_
 refine gy rfl ?_
 refine mv (v := .int .i32 _) rfl rfl ?_
 refine gy rfl ?_
 refine leq rfl rfl rfl ?_
 refine pkT (v := .bool _) rfl rfl rfl ?_
 refine mv (v := .bool _) rfl rfl ?_
 refine spT (t := 15) rfl (by omega) ?_
 refine gy rfl ?_
 refine mv (v := .int .i32 _) rfl rfl ?_
 refine gy rfl ?_
 refine lss rfl rfl rfl ?_
 refine pkT (v := .bool _) rfl rfl rfl ?_
 refine nl ?_
 refine then_n ?_
 refine cT rfl (by omega) ?_
 refine sq ?_
 refine rg ?_
 refine mv (v := .int .i32 _) rfl rfl ?_
 refine sub rfl rfl (by first | exact w_i32 (by omega) | exact w_i32 (rng_i32 _) | rfl) rfl ?_
 refine shlK (s := 10) (p := 1024) rfl rfl (by decide) (by decide) (by first | exact w_i32 (by omega) | exact w_i32 (rng_i32 _) | rfl) rfl ?_
 refine mv (v := .int .i32 _) rfl rfl ?_
 refine sub rfl rfl (by first | exact w_i32 (by omega) | exact w_i32 (rng_i32 _) | rfl) rfl ?_
 refine bor (c := (u1 - 55296) * 1024 + (u2 - 56320)) rfl rfl (or1024 (by omega) (by omega)) rfl ?_
 refine add rfl rfl (by first | exact w_i32 (by omega) | exact w_i32 (rng_i32 _) | rfl) rfl ?_
 refine asg (v := .int .i32 _) rfl rfl ?_
 refine nl ?_
 refine then_n ?_
 refine rt ?_
 refine then_r ?_
 refine fin_r ?_
 exact ⟨rfl, H.fr⟩

set_option maxRecDepth 100000 in
set_option maxHeartbeats 1000000 in
theorem c_decode (w : World) (A : Option Addr) (n c bB cB : Nat) (us : List Int) (hR : R16 w A n us) (hn : n ≤ 1000000) (hne : 0 < n → ∀ ad, A = some ad → ad.block ≠ bB) (hus : ∀ u ∈ us, 0 ≤ u ∧ u ≤ 65535) (hB : w.heap[bB]? = some (.cells (List.replicate cB (.int .i32 0)).toArray 21 (0, 0))) (hcB : cB ≤ 1000000) : Calls Tryz.prog 102 #[.slice A n c, .slice (some ⟨bB, 0, none⟩) 0 cB] w (Ret fun v w' => ∃ D cap, v = .slice D (dec16 us).length cap ∧ OR 21 1 w [bB] w' [] D (dec16 us).length cap ((dec16 us).map (Value.int .i32))) := by
 refine enter (fun ρ => ρ 4) Tryz.func102 rfl rfl rfl (res1 rfl) ?_
 have H := SH.rw1 hB
 have hul := hR.1
 refine sq ?_
 refine rg ?_
 refine asg (v := .slice _ _ _) rfl rfl ?_
 refine nl ?_
 refine then_n ?_
 refine sq ?_
 refine sq ?_
 refine rg ?_
 refine asg (v := .int .i64 _) rfl rfl ?_
 refine nl ?_
 refine then_n ?_
 refine bk ?_
 refine lpM (α := Nat × Option Addr × Nat × List Int) [1, 5, 6, 7, 8, 9, 10, 11, 12, 13, 14, 15, 16, 17, 18, 19, 20, 21, 22, 23, 24, 25, 26, 27, 28, 29, 30, 31, 32, 33, 34, 35, 36, 37, 38, 39, 40, 41, 42, 43, 44, 45, 46, 47, 48, 49, 50, 51, 52, 53, 54, 55, 56, 57, 58, 59, 60, 61, 62, 63, 64, 65, 66, 67, 68, 69] (fun (i, D, cap, rs) => [(1, .slice D rs.length cap), (5, .int .i64 (i : Int))]) (fun (i, D, cap, rs) w' => i ≤ n ∧ rs.length ≤ i ∧ dec16 us = rs ++ dec16 (us.drop i) ∧ OR 21 1 w [bB] w' [] D rs.length cap (rs.map (Value.int .i32))) (fun (i, D, cap, rs) => n - i) (0, some ⟨bB, 0, none⟩, cB, []) ?_ (fC (by first | rfl | exact congrArg (Value.int _) (by first | omega | assumption | (symm; assumption) | (simp; done) | (simp; omega)) | exact congrArg (fun n => Value.slice _ n _) (by first | omega | (simp; done) | (simp; omega))) (fC (by first | rfl | exact congrArg (Value.int _) (by first | omega | assumption | (symm; assumption) | (simp; done) | (simp; omega)) | exact congrArg (fun n => Value.slice _ n _) (by first | omega | (simp; done) | (simp; omega))) (fN _))) ?_
 ·exact ⟨by omega, by simp, rfl, OR.made (n := 0) H (by omega) (by unfold maxLen; omega) (by simp)⟩
 ·rintro ⟨i, D, cap, rs⟩ ρx w1 ⟨hi, hk, hd, O⟩
  have H := O.sh
  refine sq ?_
  refine sq ?_
  refine rg ?_
  refine mv (v := .int .i64 _) rfl rfl ?_
  refine mv (v := .slice _ _ _) rfl rfl ?_
  refine lnS rfl Tryz.underlying90 rfl ?_
  refine lss rfl rfl rfl ?_
  refine nl ?_
  refine then_n ?_
  refine cd rfl (fun hc1 => ?_) (fun hc1 => ?_)
  ·obtain ⟨u, hu⟩ : ∃ u, us[i]? = some u := ⟨_, List.getElem?_eq_getElem (by omega)⟩
   have hur := hus u (List.mem_of_getElem? hu)
   obtain ⟨ad, rfl, hcell⟩ := hR.2 i u hu
   have hnb := hne (by omega) ad rfl
   have hcell := H.fr.cell hcell (by simpa [add_block] using hnb)
   refine sk ?_
   refine then_n ?_
   refine sq ?_
   refine bk ?_
   refine sq ?_
   refine rg ?_
   refine asg (v := .int .i32 _) rfl rfl ?_
   refine nl ?_
   refine then_n ?_
   refine ctM (α := Int × Nat) [5, 6, 7, 14, 15, 16, 17, 18, 19, 20, 21, 22, 23, 24, 25, 26, 27, 28, 29, 30, 31, 32, 33, 34, 35, 36, 37, 38, 39, 40, 41, 42, 43, 44, 45, 46, 47, 48, 49, 50, 51, 52, 53, 54, 55, 56, 57, 58, 59, 60, 61, 62, 63, 64, 65] (fun (r, j) => [(5, .int .i64 (j : Int)), (6, .int .i32 r)]) (fun (r, j) w' => i ≤ j ∧ j + 1 ≤ n ∧ dec16 (us.drop i) = r :: dec16 (us.drop (j + 1)) ∧ (0 ≤ r ∧ r ≤ 1114111) ∧ OR 21 1 w [bB] w' [] D rs.length cap (rs.map (Value.int .i32))) ?_ ?_
   ·refine sq ?_
    refine rg ?_
    refine mv (v := .slice _ _ _) rfl rfl ?_
    refine mv (v := .int .i64 _) rfl rfl ?_
    refine iA rfl rfl Tryz.underlying90 sz25_1 (by omega) rfl ?_
    refine lc rfl (by first | assumption | exact H.fr.cell (by assumption) (by simp)) sc25 rfl ?_
    refine asg (v := .int .u16 _) rfl rfl ?_
    refine nl ?_
    refine then_n ?_
    refine bk ?_
    refine sq ?_
    refine sq ?_
    refine rg ?_
    refine mv (v := .int .u16 _) rfl rfl ?_
    refine lss rfl rfl rfl ?_
    refine asg (v := .bool _) rfl rfl ?_
    refine nl ?_
    refine then_n ?_
    refine cd rfl (fun hc2 => ?_) (fun hc2 => ?_)
    ·refine sk ?_
     refine then_n ?_
     refine cT rfl (by omega) ?_
     refine rg ?_
     refine mv (v := .int .u16 _) rfl rfl ?_
     refine cvi rfl rfl Tryz.underlying21 (by first | exact w_i32 (by omega) | exact w_i32 (rng_i32 _) | rfl) rfl ?_
     refine asg (v := .int .i32 _) rfl rfl ?_
     refine nl ?_
     refine in_n ?_
     refine then_n ?_
     exact ⟨(u, i), ⟨by omega, by omega, dec_A hu (by omega), by omega, O⟩, (fC (by first | rfl | exact congrArg (Value.int _) (by first | omega | assumption | (symm; assumption) | (simp; done) | (simp; omega)) | exact congrArg (fun n => Value.slice _ n _) (by first | omega | (simp; done) | (simp; omega))) (fC (by first | rfl | exact congrArg (Value.int _) (by first | omega | assumption | (symm; assumption) | (simp; done) | (simp; omega)) | exact congrArg (fun n => Value.slice _ n _) (by first | omega | (simp; done) | (simp; omega))) (fN _))), (by repeat (first | exact Agree.setL rfl Agree.mask | exact Agree.self _ _ | refine Agree.upd rfl ?_ | refine Agree.setL rfl ?_ | refine Agree.mask2 rfl ?_))⟩
    ·refine rg ?_
     refine mv (v := .int .u16 _) rfl rfl ?_
     refine leq rfl rfl rfl ?_
     refine asg (v := .bool _) rfl rfl ?_
     refine nl ?_
     refine then_n ?_
     refine cd rfl (fun hc4 => ?_) (fun hc4 => ?_)
     ·refine rg ?_
      refine mv (v := .int .u16 _) rfl rfl ?_
      refine cvi rfl rfl Tryz.underlying21 (by first | exact w_i32 (by omega) | exact w_i32 (rng_i32 _) | rfl) rfl ?_
      refine asg (v := .int .i32 _) rfl rfl ?_
      refine nl ?_
      refine in_n ?_
      refine then_n ?_
      exact ⟨(u, i), ⟨by omega, by omega, dec_A hu (by omega), by omega, O⟩, (fC (by first | rfl | exact congrArg (Value.int _) (by first | omega | assumption | (symm; assumption) | (simp; done) | (simp; omega)) | exact congrArg (fun n => Value.slice _ n _) (by first | omega | (simp; done) | (simp; omega))) (fC (by first | rfl | exact congrArg (Value.int _) (by first | omega | assumption | (symm; assumption) | (simp; done) | (simp; omega)) | exact congrArg (fun n => Value.slice _ n _) (by first | omega | (simp; done) | (simp; omega))) (fN _))), (by repeat (first | exact Agree.setL rfl Agree.mask | exact Agree.self _ _ | refine Agree.upd rfl ?_ | refine Agree.setL rfl ?_ | refine Agree.mask2 rfl ?_))⟩
     ·refine sq ?_
      refine rg ?_
      refine mv (v := .int .u16 _) rfl rfl ?_
      refine leq rfl rfl rfl ?_
      refine mv (v := .bool _) rfl rfl ?_
      refine spT (t := 28) rfl (by omega) ?_
      refine gy rfl ?_
      refine mv (v := .int .u16 _) rfl rfl ?_
      refine gy rfl ?_
      refine lss rfl rfl rfl ?_
      refine pkT (v := .bool _) rfl rfl rfl ?_
      refine mv (v := .bool _) rfl rfl ?_
      refine spd (t := 32) rfl (fun hg2 => ?_) (fun hg2 => ?_)
      ·refine gy rfl ?_
       refine mv (v := .int .i64 _) rfl rfl ?_
       refine gy rfl ?_
       refine add rfl rfl (by first | exact w_i64 (by omega) | exact w_i64 (rng_i64 _) | rfl) rfl ?_
       refine gy rfl ?_
       refine mv (v := .slice _ _ _) rfl rfl ?_
       refine gy rfl ?_
       refine lnS rfl Tryz.underlying90 rfl ?_
       refine gy rfl ?_
       refine lss rfl rfl rfl ?_
       refine pkT (v := .bool _) rfl rfl rfl ?_
       refine mv (v := .bool _) rfl rfl ?_
       refine spd (t := 39) rfl (fun hg3 => ?_) (fun hg3 => ?_)
       ·obtain ⟨v2, hv2⟩ : ∃ v, us[i + 1]? = some v := ⟨_, List.getElem?_eq_getElem (by omega)⟩
        have hvr := hus v2 (List.mem_of_getElem? hv2)
        have hcell2 := H.fr.cell (hR.at hv2) (by simpa [add_block] using hnb)
        refine gy rfl ?_
        refine mv (v := .slice _ _ _) rfl rfl ?_
        refine gy rfl ?_
        refine mv (v := .int .i64 _) rfl rfl ?_
        refine gy rfl ?_
        refine add rfl rfl (by first | exact w_i64 (by omega) | exact w_i64 (rng_i64 _) | rfl) rfl ?_
        refine gy rfl ?_
        refine iBN (ad.add (i + 1)) rfl rfl Tryz.underlying90 sz25_1 (by omega) (congrArg ad.add (by omega)) rfl ?_
        refine gy rfl ?_
        refine lc rfl (by first | assumption | exact H.fr.cell (by assumption) (by simp)) sc25 rfl ?_
        refine gy rfl ?_
        refine leq rfl rfl rfl ?_
        refine pkT (v := .bool _) rfl rfl rfl ?_
        refine mv (v := .bool _) rfl rfl ?_
        refine spd (t := 47) rfl (fun hg4 => ?_) (fun hg4 => ?_)
        ·refine gy rfl ?_
         refine mv (v := .slice _ _ _) rfl rfl ?_
         refine gy rfl ?_
         refine mv (v := .int .i64 _) rfl rfl ?_
         refine gy rfl ?_
         refine add rfl rfl (by first | exact w_i64 (by omega) | exact w_i64 (rng_i64 _) | rfl) rfl ?_
         refine gy rfl ?_
         refine iBN (ad.add (i + 1)) rfl rfl Tryz.underlying90 sz25_1 (by omega) (congrArg ad.add (by omega)) rfl ?_
         refine gy rfl ?_
         refine lc rfl (by first | assumption | exact H.fr.cell (by assumption) (by simp)) sc25 rfl ?_
         refine gy rfl ?_
         refine lss rfl rfl rfl ?_
         refine pkT (v := .bool _) rfl rfl rfl ?_
         refine asg (v := .bool _) rfl rfl ?_
         refine nl ?_
         refine then_n ?_
         refine cd rfl (fun hc5 => ?_) (fun hc5 => ?_)
         ·refine sq ?_
          refine rg ?_
          refine mv (v := .int .u16 _) rfl rfl ?_
          refine cvi rfl rfl Tryz.underlying21 (by first | exact w_i32 (by omega) | exact w_i32 (rng_i32 _) | rfl) rfl ?_
          refine mv (v := .slice _ _ _) rfl rfl ?_
          refine mv (v := .int .i64 _) rfl rfl ?_
          refine add rfl rfl (by first | exact w_i64 (by omega) | exact w_i64 (rng_i64 _) | rfl) rfl ?_
          refine iBN (ad.add (i + 1)) rfl rfl Tryz.underlying90 sz25_1 (by omega) (congrArg ad.add (by omega)) rfl ?_
          refine lc rfl (by first | assumption | exact H.fr.cell (by assumption) (by simp)) sc25 rfl ?_
          refine cvi rfl rfl Tryz.underlying21 (by first | exact w_i32 (by omega) | exact w_i32 (rng_i32 _) | rfl) rfl ?_
          refine cl ca103 (c_decRune _ u v2 (by omega) (by omega)) rfl ?_
          rintro _ w2 ⟨rfl, F⟩
          replace H := H.keep F; replace O := O.keep F; clear F
          refine asg (v := .int .i32 _) rfl rfl ?_
          refine nl ?_
          refine then_n ?_
          refine rg ?_
          refine mv (v := .int .i64 _) rfl rfl ?_
          refine add rfl rfl (by first | exact w_i64 (by omega) | exact w_i64 (rng_i64 _) | rfl) rfl ?_
          refine asg (v := .int .i64 _) rfl rfl ?_
          refine nl ?_
          refine in_n ?_
          refine then_n ?_
          exact ⟨(_, i + 1), ⟨by omega, by omega, dec_B hu hv2 (by omega) (by omega), by omega, O⟩, (fC (by first | rfl | exact congrArg (Value.int _) (by first | omega | assumption | (symm; assumption) | (simp; done) | (simp; omega)) | exact congrArg (fun n => Value.slice _ n _) (by first | omega | (simp; done) | (simp; omega))) (fC (by first | rfl | exact congrArg (Value.int _) (by first | omega | assumption | (symm; assumption) | (simp; done) | (simp; omega)) | exact congrArg (fun n => Value.slice _ n _) (by first | omega | (simp; done) | (simp; omega))) (fN _))), (by repeat (first | exact Agree.setL rfl Agree.mask | exact Agree.self _ _ | refine Agree.upd rfl ?_ | refine Agree.setL rfl ?_ | refine Agree.mask2 rfl ?_))⟩
         ·refine rg ?_
          refine asg (v := .int .i32 _) rfl rfl ?_
          refine nl ?_
          refine in_n ?_
          refine then_n ?_
          exact ⟨(65533, i), ⟨by omega, by omega, dec_C hu (by omega) (fun v h => by rw [hv2] at h; cases h; omega), by omega, O⟩, (fC (by first | rfl | exact congrArg (Value.int _) (by first | omega | assumption | (symm; assumption) | (simp; done) | (simp; omega)) | exact congrArg (fun n => Value.slice _ n _) (by first | omega | (simp; done) | (simp; omega))) (fC (by first | rfl | exact congrArg (Value.int _) (by first | omega | assumption | (symm; assumption) | (simp; done) | (simp; omega)) | exact congrArg (fun n => Value.slice _ n _) (by first | omega | (simp; done) | (simp; omega))) (fN _))), (by repeat (first | exact Agree.setL rfl Agree.mask | exact Agree.self _ _ | refine Agree.upd rfl ?_ | refine Agree.setL rfl ?_ | refine Agree.mask2 rfl ?_))⟩
        ·refine gn rfl rfl ?_
         refine gn rfl rfl ?_
         refine gn rfl rfl ?_
         refine gn rfl rfl ?_
         refine gn rfl rfl ?_
         refine gn rfl rfl ?_
         refine pkF (v := .bool _) rfl rfl rfl ?_
         refine asg (v := .bool _) rfl rfl ?_
         refine nl ?_
         refine then_n ?_
         refine cbF rfl rfl ?_
         refine rg ?_
         refine asg (v := .int .i32 _) rfl rfl ?_
         refine nl ?_
         refine in_n ?_
         refine then_n ?_
         exact ⟨(65533, i), ⟨by omega, by omega, dec_C hu (by omega) (fun v h => by rw [hv2] at h; cases h; omega), by omega, O⟩, (fC (by first | rfl | exact congrArg (Value.int _) (by first | omega | assumption | (symm; assumption) | (simp; done) | (simp; omega)) | exact congrArg (fun n => Value.slice _ n _) (by first | omega | (simp; done) | (simp; omega))) (fC (by first | rfl | exact congrArg (Value.int _) (by first | omega | assumption | (symm; assumption) | (simp; done) | (simp; omega)) | exact congrArg (fun n => Value.slice _ n _) (by first | omega | (simp; done) | (simp; omega))) (fN _))), (by repeat (first | exact Agree.setL rfl Agree.mask | exact Agree.self _ _ | refine Agree.upd rfl ?_ | refine Agree.setL rfl ?_ | refine Agree.mask2 rfl ?_))⟩
       ·refine gn rfl rfl ?_
        refine gn rfl rfl ?_
        refine gn rfl rfl ?_
        refine gn rfl rfl ?_
        refine gn rfl rfl ?_
        refine gn rfl rfl ?_
        refine pkF (v := .bool _) rfl rfl rfl ?_
        refine mv (v := .bool _) rfl rfl ?_
        refine gn rfl rfl ?_
        refine gn rfl rfl ?_
        refine gn rfl rfl ?_
        refine gn rfl rfl ?_
        refine gn rfl rfl ?_
        refine gn rfl rfl ?_
        refine pkF (v := .bool _) rfl rfl rfl ?_
        refine asg (v := .bool _) rfl rfl ?_
        refine nl ?_
        refine then_n ?_
        refine cbF rfl rfl ?_
        refine rg ?_
        refine asg (v := .int .i32 _) rfl rfl ?_
        refine nl ?_
        refine in_n ?_
        refine then_n ?_
        exact ⟨(65533, i), ⟨by omega, by omega, dec_C hu (by omega) (fun v h => by have := (List.getElem?_eq_some_iff.1 h).1; omega), by omega, O⟩, (fC (by first | rfl | exact congrArg (Value.int _) (by first | omega | assumption | (symm; assumption) | (simp; done) | (simp; omega)) | exact congrArg (fun n => Value.slice _ n _) (by first | omega | (simp; done) | (simp; omega))) (fC (by first | rfl | exact congrArg (Value.int _) (by first | omega | assumption | (symm; assumption) | (simp; done) | (simp; omega)) | exact congrArg (fun n => Value.slice _ n _) (by first | omega | (simp; done) | (simp; omega))) (fN _))), (by repeat (first | exact Agree.setL rfl Agree.mask | exact Agree.self _ _ | refine Agree.upd rfl ?_ | refine Agree.setL rfl ?_ | refine Agree.mask2 rfl ?_))⟩
      ·refine gn rfl rfl ?_
       refine gn rfl rfl ?_
       refine gn rfl rfl ?_
       refine gn rfl rfl ?_
       refine gn rfl rfl ?_
       refine pkF (v := .bool _) rfl rfl rfl ?_
       refine mv (v := .bool _) rfl rfl ?_
       refine gn rfl rfl ?_
       refine gn rfl rfl ?_
       refine gn rfl rfl ?_
       refine gn rfl rfl ?_
       refine gn rfl rfl ?_
       refine gn rfl rfl ?_
       refine pkF (v := .bool _) rfl rfl rfl ?_
       refine mv (v := .bool _) rfl rfl ?_
       refine gn rfl rfl ?_
       refine gn rfl rfl ?_
       refine gn rfl rfl ?_
       refine gn rfl rfl ?_
       refine gn rfl rfl ?_
       refine gn rfl rfl ?_
       refine pkF (v := .bool _) rfl rfl rfl ?_
       refine asg (v := .bool _) rfl rfl ?_
       refine nl ?_
       refine then_n ?_
       refine cbF rfl rfl ?_
       refine rg ?_
       refine asg (v := .int .i32 _) rfl rfl ?_
       refine nl ?_
       refine in_n ?_
       refine then_n ?_
       exact ⟨(65533, i), ⟨by omega, by omega, dec_C hu (by omega) (fun v h => by omega), by omega, O⟩, (fC (by first | rfl | exact congrArg (Value.int _) (by first | omega | assumption | (symm; assumption) | (simp; done) | (simp; omega)) | exact congrArg (fun n => Value.slice _ n _) (by first | omega | (simp; done) | (simp; omega))) (fC (by first | rfl | exact congrArg (Value.int _) (by first | omega | assumption | (symm; assumption) | (simp; done) | (simp; omega)) | exact congrArg (fun n => Value.slice _ n _) (by first | omega | (simp; done) | (simp; omega))) (fN _))), (by repeat (first | exact Agree.setL rfl Agree.mask | exact Agree.self _ _ | refine Agree.upd rfl ?_ | refine Agree.setL rfl ?_ | refine Agree.mask2 rfl ?_))⟩
   ·rintro ⟨r, j⟩ ρx w3 ⟨hj, hjn, hdr, hrr, O⟩
    have H := O.sh
    refine rg ?_
    refine mv (v := .slice _ _ _) rfl rfl ?_
    refine mv (v := .int .i32 _) rfl rfl ?_
    refine bsl (sz := 1) (out := ?o1) H Tryz.underlying152 ze21 sz21_1 (by decide) ?f1 rfl ?_
    case f1 =>
     refine FS.one (v := .int .i32 _) rfl rfl rfl (by first | decide | simp) ?_
     exact FS.nil
    intro b1 w4 hb1 H1 F; replace O := O.new F hb1 H1.look; clear H H1 F; have H := O.sh
    refine apO (zs := [.int .i32 0]) [.int .i32 r] O rfl rfl Tryz.underlying152 ri21 (by first | rfl | simp) (cells_look H.look) (by simp [Value.oneCell']) (by simp) (by omega) (by unfold maxLen; omega) rfl ?_
    clear O H; intro D9 cp9 w5 O
    have H := O.sh
    refine asg (v := .slice _ _ _) rfl rfl ?_
    refine nl ?_
    refine in_n ?_
    refine then_n ?_
    refine rg ?_
    refine mv (v := .int .i64 _) rfl rfl ?_
    refine add rfl rfl (by first | exact w_i64 (by omega) | exact w_i64 (rng_i64 _) | rfl) rfl ?_
    refine asg (v := .int .i64 _) rfl rfl ?_
    refine nl ?_
    refine loop_n ?_
    exact ⟨(j + 1, D9, cp9, rs ++ [r]), (by (try dsimp only); omega), ⟨by omega, by simp; omega, by rw [hd, hdr, List.append_assoc]; rfl, by rw [List.length_append, List.map_append]; exact O.sub (by repeat (first | exact List.Sublist.refl _ | exact List.nil_sublist _ | apply List.Sublist.cons_cons | apply List.Sublist.cons))⟩, (fC (by first | rfl | exact congrArg (Value.int _) (by first | omega | assumption | (symm; assumption) | (simp; done) | (simp; omega)) | exact congrArg (fun n => Value.slice _ n _) (by first | omega | (simp; done) | (simp; omega))) (fC (by first | rfl | exact congrArg (Value.int _) (by first | omega | assumption | (symm; assumption) | (simp; done) | (simp; omega)) | exact congrArg (fun n => Value.slice _ n _) (by first | omega | (simp; done) | (simp; omega))) (fN _))), (by repeat (first | exact Agree.setL rfl Agree.mask | exact Agree.self _ _ | refine Agree.upd rfl ?_ | refine Agree.setL rfl ?_ | refine Agree.mask2 rfl ?_))⟩
  ·refine ex ?_
   refine then_e ?_
   refine loop_e ?_
   refine in_hit rfl ?_
   refine then_n ?_
   refine sq ?_
   refine rg ?_
   refine mv (v := .slice _ _ _) rfl rfl ?_
   refine asg (v := .slice _ _ _) rfl rfl ?_
   refine nl ?_
   refine then_n ?_
   refine rt ?_
   refine fin_r ?_
   obtain rfl : i = n := by omega
   have e : dec16 us = rs := by rw [hd, List.drop_of_length_le (by omega)]; simp [dec16]
   rw [e]
   exact ⟨_, _, rfl, O⟩

set_option maxRecDepth 100000 in
set_option maxHeartbeats 1000000 in
theorem c_Decode (w : World) (A : Option Addr) (n c : Nat) (us : List Int) (hR : R16 w A n us) (hn : n ≤ 1000000) (hus : ∀ u ∈ us, 0 ≤ u ∧ u ≤ 65535) : Calls Tryz.prog 101 #[.slice A n c] w (Ret fun v w' => ∃ D cap, v = .slice D (dec16 us).length cap ∧ OR 21 1 w [] w' [] D (dec16 us).length cap ((dec16 us).map (Value.int .i32))) := by
 refine enter (fun ρ => ρ 2) Tryz.func101 rfl rfl rfl (res1 rfl) ?_
 have H := SH.nil w
 have hul := hR.1
 refine sq ?_
 refine rg ?_
 refine asg (v := .slice _ _ _) rfl rfl ?_
 refine nl ?_
 refine then_n ?_
 refine sq ?_
 refine rg ?_
 refine mk H rfl rfl Tryz.underlying152 mi21 (by omega) (by omega) (by omega) (by omega) rfl ?_
 clear H; intro b1 w1 hb1 H _
 refine asg (v := .slice _ _ _) rfl rfl ?_
 refine nl ?_
 refine then_n ?_
 refine sq ?_
 refine rg ?_
 refine mv (v := .slice _ _ _) rfl rfl ?_
 refine mv (v := .slice _ _ _) rfl rfl ?_
 refine cl ca102 (c_decode _ A n _ b1 64 us (hR.keep H.fr) hn (fun h ad e => by subst e; obtain ⟨u0, hu0⟩ : ∃ u, us[0]? = some u := ⟨_, List.getElem?_eq_getElem (by omega)⟩; have := cell_lt (hR.at hu0); omega) hus (H.look (b := b1)) (by decide)) rfl ?_
 rintro _ w2 ⟨DD, capD, rfl, O⟩
 have O := O.under H.fr hb1
 refine asg (v := .slice _ _ _) rfl rfl ?_
 refine nl ?_
 refine then_n ?_
 refine rt ?_
 refine fin_r ?_
 exact ⟨_, _, rfl, O⟩

end Go.Proofs.YthcaejaaalkglaaGreatDoor.X

/- Walks of functions, printed by a program of this claim. -/
namespace Go.Proofs.YthcaejaaalkglaaGreatDoor.X
set_option linter.unusedVariables false
set_option linter.unusedSimpArgs false
open Go Go.RowKit

namespace PF
theorem bo126 : buildOK Tryz.prog 126 = true := by kernel_rfl
theorem ca100 : callable Tryz.prog 100 = true := by kernel_rfl
theorem ca101 : callable Tryz.prog 101 = true := by kernel_rfl
theorem ca99 : callable Tryz.prog 99 = true := by kernel_rfl
theorem mi25 : elemInfo Tryz.prog 25 = some (.int .u16 0, 2) := by kernel_rfl
theorem pl126_0 : placeOf Tryz.prog 126 0 = some (0, 1) := by kernel_rfl
theorem pl126_1 : placeOf Tryz.prog 126 1 = some (1, 1) := by kernel_rfl
theorem pl126_2 : placeOf Tryz.prog 126 2 = some (2, 1) := by kernel_rfl
theorem pl126_4 : placeOf Tryz.prog 126 4 = some (4, 1) := by kernel_rfl
theorem pl126_5 : placeOf Tryz.prog 126 5 = some (5, 1) := by kernel_rfl
theorem pl126_6 : placeOf Tryz.prog 126 6 = some (6, 1) := by kernel_rfl
theorem pl126_7 : placeOf Tryz.prog 126 7 = some (7, 1) := by kernel_rfl
theorem pl126_8 : placeOf Tryz.prog 126 8 = some (8, 1) := by kernel_rfl
theorem pl126_9 : placeOf Tryz.prog 126 9 = some (9, 1) := by kernel_rfl
theorem ze126 : zeroL Tryz.prog 126 = some [.int .i64 0, .int .u64 0, .int .u64 0, .int .u64 0, .string ⟨#[]⟩, .string ⟨#[]⟩, .string ⟨#[]⟩, .int .u64 0, .int .i64 0, .int .i64 0] := by kernel_rfl
end PF
open PF

set_option maxRecDepth 100000 in
set_option maxHeartbeats 2000000 in
theorem c_partFrom (w : World) (k : Int) (q o c : Nat) (e : List UInt8) (hR : RB w (some ⟨q, o, none⟩) 128 e) (hc : 128 ≤ c) : Calls Tryz.prog 98 #[.int .i64 k, .slice (some ⟨q, o, none⟩) 128 c, .int .i64 512, .int .i64 512] w (Ret fun v w' => (∃ A, v = .tuple #[.pointer A, .nilIface] ∧ A.isNone = freeE e ∧ (freeE e = false → ∃ p, A = some ⟨p, 0, none⟩ ∧ w.heap.size ≤ p ∧ w'.heap[p]? = some (.cells (entC k 0 e).toArray 126 (0, 0)))) ∧ Fr [] w w') := by
 refine enter (fun ρ => .tuple #[ρ 8, ρ 9]) Tryz.func98 rfl rfl rfl (res2 rfl) ?_
 have H := SH.nil w
 have hel := hR.1
 have hp16 : (pcs e 16 16).length = 16 := pcs_len (by omega)
 have hp0 : (pcs e 0 16).length = 16 := pcs_len (by omega)
 refine sq ?_
 refine rg ?_
 refine asg (v := .pointer _) rfl rfl ?_
 refine asg (v := .nilIface) rfl rfl ?_
 refine nl ?_
 refine then_n ?_
 refine sq ?_
 refine sq ?_
 refine rg ?_
 refine mv (v := .slice _ _ _) rfl rfl ?_
 refine lnS rfl Tryz.underlying30 rfl ?_
 refine neq rfl rfl rfl ?_
 refine nl ?_
 refine then_n ?_
 refine cF rfl (by omega) ?_
 refine sk ?_
 refine then_n ?_
 refine sq ?_
 refine sq ?_
 refine dr (by kernel_rfl) ?_
 have H := H.drew
 refine hold (fun _ => True) [] ?_
 refine tk (i := 0) rfl (by kernel_rfl) rfl trivial (fun _ _ => r_mv (v := .slice _ _ _) rfl) ?_
 refine tk (i := 1) rfl (by kernel_rfl) rfl trivial (fun _ _ => r_sllhN (o + 0) (16) (c - 0) rfl rfl rfl Tryz.underlying30 sz5_1 (by omega) (by omega)) ?_
 refine unfree ?_
 refine fo (i := 2) (by kernel_rfl) rfl rfl ?_
 refine cl ca99 (c_zeroU _) rfl ?_
 rintro _ w1 ⟨b1, rfl, hb1, ho1, F⟩
 replace H := H.new F hb1 ho1; clear F ho1
 refine nl ?_
 refine then_n ?_
 refine fo (i := 3) (by kernel_rfl) rfl rfl ?_
 refine cl ca94 (c_bytesEqual _ _ _ _ _ _ _ (pcs e 0 16) (List.replicate 16 0) (((hR.keep H.fr).drop (k := 0) (by omega)).take (k := 16) (by omega)) (RB.allm H rfl)) rfl ?_
 rintro _ w2 ⟨rfl, F⟩
 replace H := H.keep F; clear F
 refine nl ?_
 refine then_n ?_
 refine dn (by kernel_rfl) ?_
 refine then_n ?_
 refine cd rfl (fun hc2 => ?_) (fun hc2 => ?_)
 ·refine sq ?_
  refine rg ?_
  refine asg (v := .pointer _) rfl rfl ?_
  refine asg (v := .nilIface) rfl rfl ?_
  refine nl ?_
  refine then_n ?_
  refine rt ?_
  refine then_r ?_
  refine fin_r ?_
  exact ⟨⟨none, rfl, (decide_eq_true hc2).symm, fun h => by unfold freeE at h; rw [decide_eq_true hc2] at h; cases h⟩, H.fr⟩
 ·refine sk ?_
  refine then_n ?_
  refine sq ?_
  refine rg ?_
  refine mv (v := .slice _ _ _) rfl rfl ?_
  refine sllhN (o + 0) (16) (c - 0) rfl rfl rfl Tryz.underlying30 sz5_1 (by omega) (by omega) rfl ?_
  refine cl ca73 (c_toUUID _ (some ⟨q, o + 0, none⟩) 16 _ (pcs e 0 16) (((hR.keep H.fr).drop (k := 0) (by omega)).take (k := 16) (by omega)) rfl (by omega) ⟨_, _, rfl⟩) rfl ?_
  rintro _ w3 ⟨b2, cq2, jk2, rfl, hb2, ho2, F⟩
  replace H := H.new F hb2 ho2; clear F ho2
  refine cl ca93 (c_fromBytes _ _ _ _ (permB (pcs e 0 16)) (RB.bj H (permB_len _)) rfl) rfl ?_
  rintro _ w4 ⟨rfl, F⟩
  replace H := H.keep F; clear F
  refine mv (v := .tuple _) rfl rfl ?_
  refine xt rfl rfl rfl ?_
  refine xt rfl rfl rfl ?_
  refine al H ze138 rfl ?_
  clear H; intro b3 w5 hb3 H _
  refine sa (cs' := Bs (permB (pcs e 0 16))) H rfl rfl ag138_16 (by rw [Bs_length, permB_len]) (List.all_eq_true.2 Bs_one) (by decide) (by omega) (List.append_nil _) ?_
  clear H; intro w91 H _
  refine asg (v := .nilIface) rfl rfl ?_
  refine nl ?_
  refine then_n ?_
  refine sq ?_
  refine sq ?_
  refine rg ?_
  refine mv (v := .nilIface) rfl rfl ?_
  refine neqI0 rfl Tryz.underlying73 rfl ?_
  refine nl ?_
  refine then_n ?_
  refine cbF rfl rfl ?_
  refine sk ?_
  refine then_n ?_
  refine sq ?_
  refine rg ?_
  refine la (vs := Bs (permB (pcs e 0 16))) H rfl ag138_16 (by rw [Bs_length, permB_len]) (by rw [List.drop_zero, List.take_of_length_le (by rw [Bs_length, permB_len]; decide)]) rfl ?_
  refine cl ca66 (c_uuString _ _ (permB_len _)) rfl ?_
  rintro _ w6 ⟨rfl, F⟩
  replace H := H.keep F; clear F
  refine asg (v := .string _) rfl rfl ?_
  refine nl ?_
  refine then_n ?_
  refine sq ?_
  refine rg ?_
  refine mv (v := .slice _ _ _) rfl rfl ?_
  refine sllhN (o + 16) (16) (c - 16) rfl rfl rfl Tryz.underlying30 sz5_1 (by omega) (by omega) rfl ?_
  refine cl ca73 (c_toUUID _ (some ⟨q, o + 16, none⟩) 16 _ (pcs e 16 16) (((hR.keep H.fr).drop (k := 16) (by omega)).take (k := 16) (by omega)) rfl (by omega) ⟨_, _, rfl⟩) rfl ?_
  rintro _ w7 ⟨b4, cq4, jk4, rfl, hb4, ho4, F⟩
  replace H := H.new F hb4 ho4; clear F ho4
  refine cl ca93 (c_fromBytes _ _ _ _ (permB (pcs e 16 16)) (RB.bj H (permB_len _)) rfl) rfl ?_
  rintro _ w8 ⟨rfl, F⟩
  replace H := H.keep F; clear F
  refine mv (v := .tuple _) rfl rfl ?_
  refine xt rfl rfl rfl ?_
  refine xt rfl rfl rfl ?_
  refine al H ze138 rfl ?_
  clear H; intro b5 w9 hb5 H _
  refine sa (cs' := Bs (permB (pcs e 16 16))) H rfl rfl ag138_16 (by rw [Bs_length, permB_len]) (List.all_eq_true.2 Bs_one) (by decide) (by omega) (List.append_nil _) ?_
  clear H; intro w92 H _
  refine asg (v := .nilIface) rfl rfl ?_
  refine nl ?_
  refine then_n ?_
  refine sq ?_
  refine sq ?_
  refine rg ?_
  refine mv (v := .nilIface) rfl rfl ?_
  refine neqI0 rfl Tryz.underlying73 rfl ?_
  refine nl ?_
  refine then_n ?_
  refine cbF rfl rfl ?_
  refine sk ?_
  refine then_n ?_
  refine sq ?_
  refine dr (by kernel_rfl) ?_
  have H := H.drew
  refine hold (fun _ => True) [] ?_
  refine tk (i := 1) rfl (by kernel_rfl) rfl trivial (fun _ _ => r_mv (v := .slice _ _ _) rfl) ?_
  refine tk (i := 2) rfl (by kernel_rfl) rfl trivial (fun _ _ => r_sllhN (o + 32) (8) (c - 32) rfl rfl rfl Tryz.underlying30 sz5_1 (by omega) (by omega)) ?_
  refine unfree ?_
  refine holdH H [] ?_
  refine tk (i := 0) rfl (by kernel_rfl) rfl H (fun w' H => r_lw (vs := []) rfl ag143_0 rfl (by simp)) ?_
  refine fk (i := 3) (by kernel_rfl) rfl rfl rfl ?_
  refine cl ca92 (c_uint64 _ _ _ _ (pcs e 32 8) (((hR.keep H.fr).drop (k := 32) (by omega)).take (k := 8) (by omega)) rfl) rfl ?_
  rintro _ w10 ⟨rfl, F⟩
  replace H := H.keep F; clear F
  refine nl ?_
  refine then_n ?_
  refine ⟨H, ?_⟩
  refine tk (i := 4) rfl (by kernel_rfl) rfl H (fun w' H => r_asg (v := .int .u64 _) rfl) ?_
  refine da (by kernel_rfl) ?_
  refine then_n ?_
  refine sq ?_
  refine dr (by kernel_rfl) ?_
  have H := H.drew
  refine hold (fun _ => True) [] ?_
  refine tk (i := 1) rfl (by kernel_rfl) rfl trivial (fun _ _ => r_mv (v := .slice _ _ _) rfl) ?_
  refine tk (i := 2) rfl (by kernel_rfl) rfl trivial (fun _ _ => r_sllhN (o + 40) (8) (c - 40) rfl rfl rfl Tryz.underlying30 sz5_1 (by omega) (by omega)) ?_
  refine unfree ?_
  refine holdH H [] ?_
  refine tk (i := 0) rfl (by kernel_rfl) rfl H (fun w' H => r_lw (vs := []) rfl ag143_0 rfl (by simp)) ?_
  refine fk (i := 3) (by kernel_rfl) rfl rfl rfl ?_
  refine cl ca92 (c_uint64 _ _ _ _ (pcs e 40 8) (((hR.keep H.fr).drop (k := 40) (by omega)).take (k := 8) (by omega)) rfl) rfl ?_
  rintro _ w11 ⟨rfl, F⟩
  replace H := H.keep F; clear F
  refine nl ?_
  refine then_n ?_
  refine ⟨H, ?_⟩
  refine tk (i := 4) rfl (by kernel_rfl) rfl H (fun w' H => r_asg (v := .int .u64 _) rfl) ?_
  refine da (by kernel_rfl) ?_
  refine then_n ?_
  refine sq ?_
  refine dr (by kernel_rfl) ?_
  have H := H.drew
  refine hold (fun _ => True) [] ?_
  refine tk (i := 1) rfl (by kernel_rfl) rfl trivial (fun _ _ => r_mv (v := .slice _ _ _) rfl) ?_
  refine tk (i := 2) rfl (by kernel_rfl) rfl trivial (fun _ _ => r_sllhN (o + 48) (8) (c - 48) rfl rfl rfl Tryz.underlying30 sz5_1 (by omega) (by omega)) ?_
  refine unfree ?_
  refine holdH H [] ?_
  refine tk (i := 0) rfl (by kernel_rfl) rfl H (fun w' H => r_lw (vs := []) rfl ag143_0 rfl (by simp)) ?_
  refine fk (i := 3) (by kernel_rfl) rfl rfl rfl ?_
  refine cl ca92 (c_uint64 _ _ _ _ (pcs e 48 8) (((hR.keep H.fr).drop (k := 48) (by omega)).take (k := 8) (by omega)) rfl) rfl ?_
  rintro _ w12 ⟨rfl, F⟩
  replace H := H.keep F; clear F
  refine nl ?_
  refine then_n ?_
  refine ⟨H, ?_⟩
  refine tk (i := 4) rfl (by kernel_rfl) rfl H (fun w' H => r_asg (v := .int .u64 _) rfl) ?_
  refine da (by kernel_rfl) ?_
  refine then_n ?_
  refine sq ?_
  refine rg ?_
  refine mv (v := .slice _ _ _) rfl rfl ?_
  refine sllN (o + 56) (72) (c - 56) rfl rfl Tryz.underlying30 sz5_1 (by omega) (by omega) rfl ?_
  refine asg (v := .slice _ _ _) rfl rfl ?_
  refine nl ?_
  refine then_n ?_
  refine sq ?_
  refine rg ?_
  refine mk H rfl rfl Tryz.underlying90 mi25 (by omega) (by omega) (by omega) (by omega) rfl ?_
  clear H; intro b6 w13 hb6 H _
  refine asg (v := .slice _ _ _) rfl rfl ?_
  refine nl ?_
  refine then_n ?_
  refine ctM (α := Option Addr × Nat) [18, 19, 20, 68, 69, 70, 71, 72, 73, 74, 75, 76, 77, 78, 79, 80, 81, 82, 83, 84, 85, 86] (fun (D, cap) => [(18, .slice D (nmU e).length cap)]) (fun (D, cap) w' => OR 25 1 w [] w' [⟨b5, .cells (Bs (permB (pcs e 16 16))).toArray 138 (0, 0), true⟩] D (nmU e).length cap ((nmU e).map (Value.int .u16))) ?_ ?_
  ·refine sq ?_
   refine rg ?_
   refine asg (v := .int .i64 _) rfl rfl ?_
   refine nl ?_
   refine then_n ?_
   refine bk ?_
   refine lpM (α := Nat × Option Addr × Nat) [18, 19, 20, 68, 69, 70, 71, 72, 73, 74, 75, 76, 77, 78, 79, 80, 81, 82, 83, 84, 85, 86] (fun (j, D, cap) => [(18, .slice D j cap), (19, .int .i64 (2 * (j : Int)))]) (fun (j, D, cap) w' => j ≤ 36 ∧ (∀ u ∈ (unE e).take j, u ≠ 0) ∧ OR 25 1 w [] w' [⟨b5, .cells (Bs (permB (pcs e 16 16))).toArray 138 (0, 0), true⟩] D j cap (((unE e).take j).map (Value.int .u16))) (fun (j, D, cap) => 36 - j) (0, some ⟨b6, 0, none⟩, 72) ?_ (fC (by first | rfl | exact congrArg (Value.int _) (by first | omega | assumption | (symm; assumption) | (simp; done) | (simp; omega)) | exact congrArg (fun n => Value.slice _ n _) (by first | omega | (simp; done) | (simp; omega))) (fC (by first | rfl | exact congrArg (Value.int _) (by first | omega | assumption | (symm; assumption) | (simp; done) | (simp; omega)) | exact congrArg (fun n => Value.slice _ n _) (by first | omega | (simp; done) | (simp; omega))) (fN _))) ?_
   ·exact ⟨by omega, by simp, OR.made (n := 0) (cur := List.replicate 72 (.int .u16 0)) (H.sub (by repeat (first | exact List.Sublist.refl _ | exact List.nil_sublist _ | apply List.Sublist.cons_cons | apply List.Sublist.cons))) (by omega) (by decide) rfl⟩
   ·rintro ⟨j, D, cap⟩ ρx w14 ⟨hj, hz, O⟩
    have H := O.sh
    have hur : 0 ≤ fld e (56 + 2 * j) 2 ∧ fld e (56 + 2 * j) 2 ≤ 65535 := fld_rng2
    refine sq ?_
    refine sq ?_
    refine rg ?_
    refine mv (v := .int .i64 _) rfl rfl ?_
    refine mv (v := .slice _ _ _) rfl rfl ?_
    refine lnS rfl Tryz.underlying30 rfl ?_
    refine lss rfl rfl rfl ?_
    refine nl ?_
    refine then_n ?_
    refine cd rfl (fun hc5 => ?_) (fun hc5 => ?_)
    ·refine sk ?_
     refine then_n ?_
     refine sq ?_
     refine bk ?_
     refine sq ?_
     refine dr (by kernel_rfl) ?_
     have H := H.drew
     replace O := O.drew
     refine hold (fun _ => True) [] ?_
     refine tk (i := 1) rfl (by kernel_rfl) rfl trivial (fun _ _ => r_mv (v := .slice _ _ _) rfl) ?_
     refine tk (i := 2) rfl (by kernel_rfl) rfl trivial (fun _ _ => r_mv (v := .int .i64 _) rfl) ?_
     refine tk (i := 3) rfl (by kernel_rfl) rfl trivial (fun _ _ => r_mv (v := .int .i64 _) rfl) ?_
     refine tk (i := 4) rfl (by kernel_rfl) rfl trivial (fun _ _ => r_add rfl rfl (by first | exact w_i64 (by omega) | exact w_i64 (rng_i64 _) | rfl)) ?_
     refine tk (i := 5) rfl (by kernel_rfl) rfl trivial (fun _ _ => r_sllhN (o + (56 + 2 * j)) (2) (c - (56 + 2 * j)) rfl rfl rfl Tryz.underlying30 sz5_1 (by omega) (by omega)) ?_
     refine unfree ?_
     refine holdH H [] ?_
     refine tk (i := 0) rfl (by kernel_rfl) rfl H (fun w' H => r_lw (vs := []) rfl ag143_0 rfl (by simp)) ?_
     refine fk (i := 6) (by kernel_rfl) rfl rfl rfl ?_
     refine cl ca100 (c_uint16 _ _ _ _ (pcs e (56 + 2 * j) 2) (((hR.keep H.fr).drop (k := 56 + 2 * j) (by omega)).take (k := 2) (by omega)) rfl) rfl ?_
     rintro _ w15 ⟨rfl, F⟩
     replace H := H.keep F; replace O := O.keep F; clear F
     refine nl ?_
     refine then_n ?_
     refine ⟨H, ?_⟩
     refine tk (i := 7) rfl (by kernel_rfl) rfl H (fun w' H => r_asg (v := .int .u16 _) rfl) ?_
     refine da (by kernel_rfl) ?_
     refine then_n ?_
     refine sq ?_
     refine sq ?_
     refine rg ?_
     refine mv (v := .int .u16 _) rfl rfl ?_
     refine eql rfl rfl rfl ?_
     refine nl ?_
     refine then_n ?_
     refine cd rfl (fun hc6 => ?_) (fun hc6 => ?_)
     ·have hnu := nmU_at hz (by omega) (by assumption)
      have hnl : (nmU e).length = j := by rw [hnu, take_unE_len (by omega)]
      refine ex ?_
      refine then_e ?_
      refine in_miss rfl ?_
      refine then_e ?_
      refine loop_e ?_
      refine in_hit rfl ?_
      refine then_n ?_
      exact ⟨(D, cap), by rw [hnl, hnu]; exact O, (fC (by first | rfl | exact congrArg (Value.int _) (by first | omega | assumption | (symm; assumption) | (simp; done) | (simp; omega)) | exact congrArg (fun n => Value.slice _ n _) (by first | omega | (simp; done) | (simp; omega))) (fN _)), (by repeat (first | exact Agree.setL rfl Agree.mask | exact Agree.self _ _ | refine Agree.upd rfl ?_ | refine Agree.setL rfl ?_ | refine Agree.mask2 rfl ?_))⟩
     ·refine sk ?_
      refine then_n ?_
      refine rg ?_
      refine mv (v := .slice _ _ _) rfl rfl ?_
      refine mv (v := .int .u16 _) rfl rfl ?_
      refine bsl (sz := 1) (out := ?o1) H Tryz.underlying90 ze25 sz25_1 (by decide) ?f1 rfl ?_
      case f1 =>
       refine FS.one (v := .int .u16 _) rfl rfl rfl (by first | decide | simp) ?_
       exact FS.nil
      intro b7 w16 hb7 H1 F; replace O := O.new F hb7 H1.look; clear H H1 F; have H := O.sh
      refine apO (zs := [.int .u16 0]) [.int .u16 (fld e (56 + 2 * j) 2)] O rfl rfl Tryz.underlying90 ri25 (by first | rfl | simp) (cells_look H.look) (by simp [Value.oneCell']) (by simp) (by omega) (by unfold maxLen; omega) rfl ?_
      clear O H; intro D9 cp9 w17 O
      have H := O.sh
      refine asg (v := .slice _ _ _) rfl rfl ?_
      refine nl ?_
      refine in_n ?_
      refine then_n ?_
      refine rg ?_
      refine mv (v := .int .i64 _) rfl rfl ?_
      refine add rfl rfl (by first | exact w_i64 (by omega) | exact w_i64 (rng_i64 _) | rfl) rfl ?_
      refine asg (v := .int .i64 _) rfl rfl ?_
      refine nl ?_
      refine loop_n ?_
      exact ⟨(j + 1, D9, cp9), (by (try dsimp only); omega), ⟨by omega, nz_next hz (by omega) (by assumption), by rw [unE_succ (by omega), List.map_append]; exact O.sub (by repeat (first | exact List.Sublist.refl _ | exact List.nil_sublist _ | apply List.Sublist.cons_cons | apply List.Sublist.cons))⟩, (fC (by first | rfl | exact congrArg (Value.int _) (by first | omega | assumption | (symm; assumption) | (simp; done) | (simp; omega)) | exact congrArg (fun n => Value.slice _ n _) (by first | omega | (simp; done) | (simp; omega))) (fC (by first | rfl | exact congrArg (Value.int _) (by first | omega | assumption | (symm; assumption) | (simp; done) | (simp; omega)) | exact congrArg (fun n => Value.slice _ n _) (by first | omega | (simp; done) | (simp; omega))) (fN _))), (by repeat (first | exact Agree.setL rfl Agree.mask | exact Agree.self _ _ | refine Agree.upd rfl ?_ | refine Agree.setL rfl ?_ | refine Agree.mask2 rfl ?_))⟩
    ·have hnu := nmU_full hz (by omega)
     have hnl : (nmU e).length = j := by rw [hnu, take_unE_len (by omega)]
     refine ex ?_
     refine then_e ?_
     refine loop_e ?_
     refine in_hit rfl ?_
     refine then_n ?_
     exact ⟨(D, cap), by rw [hnl, hnu]; exact O, (fC (by first | rfl | exact congrArg (Value.int _) (by first | omega | assumption | (symm; assumption) | (simp; done) | (simp; omega)) | exact congrArg (fun n => Value.slice _ n _) (by first | omega | (simp; done) | (simp; omega))) (fN _)), (by repeat (first | exact Agree.setL rfl Agree.mask | exact Agree.self _ _ | refine Agree.upd rfl ?_ | refine Agree.setL rfl ?_ | refine Agree.mask2 rfl ?_))⟩
  ·rintro ⟨D, cap⟩ ρx w18 O
   have H := O.sh
   refine sq ?_
   refine rg ?_
   refine mv (v := .slice _ _ _) rfl rfl ?_
   refine cl ca101 (c_Decode _ _ _ _ (nmU e) O.r16 (by have := nmU_len e; omega) nmU_rng) rfl ?_
   rintro _ w19 ⟨DU, capU, rfl, OU⟩
   replace H := H.keep OU.sh.fr; clear O
   refine asg (v := .slice _ _ _) rfl rfl ?_
   refine nl ?_
   refine then_n ?_
   refine sq ?_
   refine rg ?_
   refine mv (v := .slice _ _ _) rfl rfl ?_
   refine cvRO OU rfl Tryz.underlying152 Tryz.underlying21 Tryz.underlying9 rfl ?_
   refine asg (v := .string _) rfl rfl ?_
   refine nl ?_
   refine then_n ?_
   refine sq ?_
   refine rg ?_
   refine mv (v := .int .i64 _) rfl rfl ?_
   refine mv (v := .int .u64 _) rfl rfl ?_
   refine mv (v := .int .u64 _) rfl rfl ?_
   refine mv (v := .string _) rfl rfl ?_
   refine la (vs := Bs (permB (pcs e 16 16))) H rfl ag138_16 (by rw [Bs_length, permB_len]) (by rw [List.drop_zero, List.take_of_length_le (by rw [Bs_length, permB_len]; decide)]) rfl ?_
   refine cl ca66 (c_uuString _ _ (permB_len _)) rfl ?_
   rintro _ w20 ⟨rfl, F⟩
   replace H := H.keep F; clear F
   refine cl ca86 (c_upper _ _ (by have := sTp_len (permB (pcs e 16 16)) 16; unfold sT; omega)) rfl ?_
   rintro _ w21 ⟨rfl, F⟩
   replace H := H.keep F; clear F
   rw [up_sT hp16]
   refine mv (v := .int .u64 _) rfl rfl ?_
   refine mv (v := .string _) rfl rfl ?_
   refine cl ca86 (c_upper _ _ (by have := sTp_len (permB (pcs e 0 16)) 16; unfold sT; omega)) rfl ?_
   rintro _ w22 ⟨rfl, F⟩
   replace H := H.keep F; clear F
   rw [up_sT hp0]
   refine mv (v := .int .i64 _) rfl rfl ?_
   refine mv (v := .int .i64 _) rfl rfl ?_
   refine bu (out := ?o2) ze126 bo126 ?f2 rfl ?_
   case f2 =>
    refine FL.one (v := .int .i64 _) rfl pl126_0 rfl (by first | decide | simp) ?_
    refine FL.one (v := .int .u64 _) rfl pl126_1 rfl (by first | decide | simp) ?_
    refine FL.one (v := .int .u64 _) rfl pl126_2 rfl (by first | decide | simp) ?_
    refine FL.one (v := .string _) rfl pl126_5 rfl (by first | decide | simp) ?_
    refine FL.one (v := .string _) rfl pl126_6 rfl (by first | decide | simp) ?_
    refine FL.one (v := .int .u64 _) rfl pl126_7 rfl (by first | decide | simp) ?_
    refine FL.one (v := .string _) rfl pl126_4 rfl (by first | decide | simp) ?_
    refine FL.one (v := .int .i64 _) rfl pl126_8 rfl (by first | decide | simp) ?_
    refine FL.one (v := .int .i64 _) rfl pl126_9 rfl (by first | decide | simp) ?_
    exact FL.nil
   refine bx (v := .agg _) H rfl rfl rfl ?_
   clear H; intro b8 w23 hb8 H _
   refine asg (v := .pointer _) rfl rfl ?_
   refine asg (v := .nilIface) rfl rfl ?_
   refine nl ?_
   refine then_n ?_
   refine rt ?_
   refine fin_r ?_
   exact ⟨⟨_, rfl, (decide_eq_false hc2).symm, fun _ => ⟨_, rfl, H.ge, H.look⟩⟩, H.fr⟩

end Go.Proofs.YthcaejaaalkglaaGreatDoor.X

/- The array of entries, read. -/
namespace Go.Proofs.YthcaejaaalkglaaGreatDoor.X
set_option linter.unusedVariables false
open Go Go.RowKit
def szE (e : List UInt8) : Int := ((fld e 40 8 - fld e 32 8) % 18446744073709551616 + 1) % 18446744073709551616 * 512 % 18446744073709551616
def entA (ar : List UInt8) (j : Nat) : List UInt8 := pcs ar (128 * j) 128
def useJ (ar : List UInt8) (j : Nat) : Option (List Value) := if freeE (entA ar j) then none else some (entC ((j : Int) + 1) (szE (entA ar j)) (entA ar j))
def usedC (ar : List UInt8) (i : Nat) : List (List Value) := (List.range i).filterMap (useJ ar)
theorem usedC_free {ar : List UInt8} {i : Nat} (h : freeE (entA ar i) = true) : usedC ar (i + 1) = usedC ar i := by
  unfold usedC
  rw [List.range_succ, List.filterMap_append]
  simp [useJ, h]
theorem usedC_use {ar : List UInt8} {i : Nat} (h : freeE (entA ar i) = false) : usedC ar (i + 1) = usedC ar i ++ [entC ((i : Int) + 1) (szE (entA ar i)) (entA ar i)] := by
  unfold usedC
  rw [List.range_succ, List.filterMap_append]
  simp [useJ, h]
theorem OR.joinN {e : TypeId} {sz : Nat} {w0 w w' : World} {S : List Nat} {L N : List Ent} {A : Option Addr} {n cap : Nat} {xs : List Value} (O : OR e sz w [] w' N A n cap xs) (H : SH w0 S w L) (hm : ∀ x ∈ N, x.m = true) : OR e sz w0 S w' (L ++ N) A n cap xs := by
  have O2 : OR e sz w0 S w' (N ++ L) A n cap xs := by
    refine ⟨O.len, H.join O.sh hm, ?_⟩
    rcases O.own with h | ⟨b, cur, h1, h2, h3, h4, h5, h6⟩
    · exact .inl h
    · refine .inr ⟨b, cur, h1, h2, h3, h4, h5, ?_⟩
      exact H.join h6 (fun x hx => by
        rcases List.mem_cons.1 hx with rfl | hx
        · rfl
        · exact hm x hx)
  exact O2.perm List.perm_append_comm
theorem SH.wide {w0 w : World} {S : List Nat} {L : List Ent} (H : SH w0 [] w L) : SH w0 S w L :=
  ⟨H.fr.mono (by simp), H.get, H.ap, fun x hx hm => .inr ((H.mu x hx hm).resolve_left (by simp))⟩
theorem OR.wide {e : TypeId} {sz : Nat} {w0 w : World} {S : List Nat} {L : List Ent} {A : Option Addr} {n cap : Nat} {xs : List Value} (O : OR e sz w0 [] w L A n cap xs) : OR e sz w0 S w L A n cap xs :=
  ⟨O.len, O.sh.wide, O.own.imp id fun ⟨b, cur, h1, h2, h3, h4, h5, h6⟩ => ⟨b, cur, h1, h2, h3, h4, h5, h6.wide⟩⟩
theorem ents_m1 {T : TypeId} {l : PL} {p : Nat} {o : Obj} : ∀ x ∈ ((⟨p, o, true⟩ : Ent) :: ents T l), x.m = true := fun x hx => by
  rcases List.mem_cons.1 hx with rfl | hx
  · rfl
  · exact ents_m x hx
theorem nb_t {a b : Bool} (h : b = !a) (h2 : b = true) : a = false := by subst h; simpa using h2
theorem nb_f {a b : Bool} (h : b = !a) (h2 : b = false) : a = true := by subst h; simpa using h2
theorem SH.backS {w w1 w' : World} {S : List Nat} {L : List Ent} (F : Fr S w w1) (K : SH w1 S w' L) : SH w S w' L :=
  ⟨F.then K.fr (fun t ht => .inl ht), K.get, K.ap, fun x hx hm => (K.mu x hx hm).imp id fun h => Nat.le_trans F.size h⟩
theorem OR.backS {e : TypeId} {sz : Nat} {w w1 w' : World} {S : List Nat} {L : List Ent} {A : Option Addr} {n cap : Nat} {xs : List Value} (F : Fr S w w1) (O : OR e sz w1 S w' L A n cap xs) : OR e sz w S w' L A n cap xs :=
  ⟨O.len, O.sh.backS F, O.own.imp id fun ⟨b, cur, h1, h2, h3, h4, h5, h6⟩ => ⟨b, cur, h1, h2, h3, h4, h5, h6.backS F⟩⟩
theorem cell_lt0 {w : World} {ad : Addr} {v : Value} (h : w.cell? ad = some v) : ad.block < w.heap.size := by
  rcases Nat.lt_or_ge ad.block w.heap.size with h1 | h1
  · exact h1
  · exfalso
    unfold World.cell? at h
    rw [Array.getElem?_eq_none h1] at h
    simp at h
theorem RB.lt {w : World} {q o n : Nat} {bs : List UInt8} (h : RB w (some ⟨q, o, none⟩) n bs) (hn : 0 < n) : q < w.heap.size := by
  obtain ⟨ad, e, hc⟩ := h.2 0 hn
  cases e
  have := cell_lt hc
  exact this
theorem pcs0 {ds : List UInt8} {n p k : Nat} (h : p + k ≤ n) : pcs (pcs ds 0 n) p k = pcs ds p k := by rw [pcs_pcs h, Nat.zero_add]
theorem fld0 {ds : List UInt8} {n p k : Nat} (h : p + k ≤ n) : fld (pcs ds 0 n) p k = fld ds p k := by unfold fld; rw [pcs0 h]
theorem hdr0 {ds : List UInt8} : hdrGood (pcs ds 0 1024) 512 = hdrGood ds 512 := by
  unfold hdrGood sigOk crcOk
  rw [pcs0 (by decide), pcs0 (by decide), pcs0 (by decide), pcs0 (by decide), pcs0 (by decide), fld0 (by decide)]
theorem pcsA {ds : List UInt8} {a n p k : Nat} (h : p + k ≤ n) : pcs (pcs ds a n) p k = pcs ds (a + p) k := pcs_pcs h
theorem fldA {ds : List UInt8} {a n p k : Nat} (h : p + k ≤ n) : fld (pcs ds a n) p k = fld ds (a + p) k := by unfold fld; rw [pcsA h]
theorem hdrA {ds : List UInt8} {a : Nat} : hdrGood (pcs ds a 512) 0 = hdrGood ds a := by
  unfold hdrGood sigOk crcOk
  rw [pcsA (by decide), pcsA (by decide), pcsA (by decide), pcsA (by decide), pcsA (by decide), fldA (by decide)]
  rfl
section steps
variable {P : Program} {n : Nat} {ops : Array Oper} {Q : Post} {rest : List Oper} {ρ : Env} {w : World} {ty : TypeId} {pos : String} {af : Array Edge} {d : Nat}
/-- A slice's end, which may be all of it. -/
theorem sllX {t e : TypeId} {x lo : Operand} {b o len cap sz : Nat} {k : IntKind} {l : Int} (o' m' c' : Nat) (hx : ev ρ x = .slice (some ⟨b, o, none⟩) len cap) (h1 : ev ρ lo = .int k l) (hu : P.underlying t = some (.slice e)) (hs : sizeB P e sz = true) (hb : 0 ≤ l ∧ l ≤ len ∧ len ≤ cap) (ho : (l = cap → o' = o) ∧ (l ≠ cap → o' = o + l.toNat * sz) ∧ len - l.toNat = m' ∧ cap - l.toNat = c') (hn : Nat.blt d n = true)
    (kk : wl P n ops Q rest (upd ρ d (.slice (some ⟨b, o', none⟩) m' c')) w) : wl P n ops Q (⟨some d, .slice t x (some lo) none none, ty, pos, af, none⟩ :: rest) ρ w := by
  by_cases hc : l = cap
  · obtain rfl := ho.1 hc
    refine val rfl rfl hn ?_ kk
    subst hc
    have e1 : len = cap := by omega
    subst e1
    have h2 : m' = 0 := by have := ho.2.2.1; simp at this; omega
    have h3 : c' = 0 := by have := ho.2.2.2; simp at this; omega
    subst h2; subst h3
    simp [execOp, hx, h1, Instr.sliceAt, run_underlying hu, Instr.slice, Instr.sliceBounds, Instr.sliceBound, asIntOf, run_sizeOf hs]
  · exact sllN o' m' c' hx h1 hu hs ⟨hb.1, hb.2.1, by omega⟩ ⟨(ho.2.1 hc).symm, ho.2.2⟩ hn kk
end steps
end Go.Proofs.YthcaejaaalkglaaGreatDoor.X

/- Walks of functions, printed by a program of this claim. -/
namespace Go.Proofs.YthcaejaaalkglaaGreatDoor.X
set_option linter.unusedVariables false
set_option linter.unusedSimpArgs false
open Go Go.RowKit

namespace PF
theorem ca98 : callable Tryz.prog 98 = true := by kernel_rfl
theorem fo126_1 : fieldOff Tryz.prog 126 1 = some 1 := by kernel_rfl
theorem fo126_2 : fieldOff Tryz.prog 126 2 = some 2 := by kernel_rfl
theorem fo126_3 : fieldOff Tryz.prog 126 3 = some 3 := by kernel_rfl
theorem mi123 : elemInfo Tryz.prog 123 = some (.pointer none, 8) := by kernel_rfl
theorem ri123 : rowInfo Tryz.prog 123 = some ([.pointer none], 8) := by kernel_rfl
theorem sz123_1 : sizeB Tryz.prog 123 1 = true := by kernel_rfl
theorem ze123 : zeroL Tryz.prog 123 = some [.pointer none] := by kernel_rfl
end PF
open PF

set_option maxRecDepth 100000 in
set_option maxHeartbeats 1000000 in
theorem c_readArr (w : World) (q n c m : Nat) (ar : List UInt8) (hR : RB w (some ⟨q, 0, none⟩) n ar) (hc : n ≤ c) (hn : n = 128 * m) (hm : m ≤ 100000) : Calls Tryz.prog 90 #[.slice (some ⟨q, 0, none⟩) n c, .int .i64 128, .int .i64 512, .int .i64 512] w (Ret fun v w' => ∃ D cap l, v = .tuple #[.slice D l.length cap, .nilIface] ∧ l.map Prod.snd = usedC ar m ∧ l.length ≤ m ∧ OR 123 1 w [] w' (ents 126 l) D l.length cap (ptrs l)) := by
 refine enter (fun ρ => .tuple #[ρ 8, ρ 9]) Tryz.func90 rfl rfl rfl (res2 rfl) ?_
 have H := SH.nil w
 have hrl := hR.1
 refine sq ?_
 refine rg ?_
 refine asg (v := .slice _ _ _) rfl rfl ?_
 refine asg (v := .nilIface) rfl rfl ?_
 refine nl ?_
 refine then_n ?_
 refine sq ?_
 refine rg ?_
 refine mk H rfl rfl Tryz.underlying104 mi123 (by omega) (by omega) (by omega) (by omega) rfl ?_
 clear H; intro b1 w1 hb1 H _
 refine asg (v := .slice _ _ _) rfl rfl ?_
 refine nl ?_
 refine then_n ?_
 refine sq ?_
 refine sq ?_
 refine rg ?_
 refine mv (v := .slice _ _ _) rfl rfl ?_
 refine asg (v := .int .i64 _) rfl rfl ?_
 refine asg (v := .slice _ _ _) rfl rfl ?_
 refine nl ?_
 refine then_n ?_
 refine bk ?_
 refine lpM (α := Nat × Nat × Option Addr × Nat × PL) [8, 9, 10, 11, 12, 13, 14, 15, 18, 19, 20, 21, 22, 23, 24, 25, 26, 27, 28, 29, 30, 31, 32, 33, 34, 35, 36, 37, 38, 39, 40, 41, 42, 43, 44, 45, 46, 47, 48, 49, 50, 51, 52, 53, 54, 55, 56, 57, 58, 59, 60, 61, 62, 63] (fun (i, o, D, cap, l) => [(10, .slice D l.length cap), (11, .int .i64 (i : Int)), (12, .slice (some ⟨q, o, none⟩) (n - 128 * i) (c - 128 * i))]) (fun (i, o, D, cap, l) w' => 128 * i ≤ n ∧ (128 * i < n → o = 128 * i) ∧ l.map Prod.snd = usedC ar i ∧ l.length ≤ i ∧ OR 123 1 w [] w' (ents 126 l) D l.length cap (ptrs l)) (fun (i, o, D, cap, l) => n - 128 * i) (0, 0, some ⟨b1, 0, none⟩, 0, []) ?_ (fC (by first | rfl | exact congrArg (Value.int _) (by first | omega | assumption | (symm; assumption) | (simp; done) | (simp; omega)) | exact congrArg (fun n => Value.slice _ n _) (by first | omega | (simp; done) | (simp; omega))) (fC (by first | rfl | exact congrArg (Value.int _) (by first | omega | assumption | (symm; assumption) | (simp; done) | (simp; omega)) | exact congrArg (fun n => Value.slice _ n _) (by first | omega | (simp; done) | (simp; omega))) (fC (by first | rfl | exact congrArg (Value.int _) (by first | omega | assumption | (symm; assumption) | (simp; done) | (simp; omega)) | exact congrArg (fun n => Value.slice _ n _) (by first | omega | (simp; done) | (simp; omega))) (fN _)))) ?_
 ·exact ⟨by omega, by omega, rfl, by simp, OR.made (n := 0) (cur := List.replicate 0 (.pointer none)) H (by omega) (by decide) rfl⟩
 ·rintro ⟨i, o, D, cap, l⟩ ρx w2 ⟨hi, ho, hl, hll, O⟩
  have H := O.sh
  refine sq ?_
  refine sq ?_
  refine rg ?_
  refine mv (v := .slice _ _ _) rfl rfl ?_
  refine lnS rfl Tryz.underlying30 rfl ?_
  refine mv (v := .int .i64 _) rfl rfl ?_
  refine geq rfl rfl rfl ?_
  refine nl ?_
  refine then_n ?_
  refine cd rfl (fun hc1 => ?_) (fun hc1 => ?_)
  ·obtain rfl : o = 128 * i := ho (by omega)
   refine sk ?_
   refine then_n ?_
   refine sq ?_
   refine bk ?_
   refine sq ?_
   refine rg ?_
   refine mv (v := .slice _ _ _) rfl rfl ?_
   refine mv (v := .int .i64 _) rfl rfl ?_
   refine slhN (128) rfl rfl Tryz.underlying30 sz5_1 (by omega) (by omega) rfl ?_
   refine asg (v := .slice _ _ _) rfl rfl ?_
   refine nl ?_
   refine then_n ?_
   refine sq ?_
   refine rg ?_
   refine mv (v := .int .i64 _) rfl rfl ?_
   refine add rfl rfl (by first | exact w_i64 (by omega) | exact w_i64 (rng_i64 _) | rfl) rfl ?_
   refine mv (v := .slice _ _ _) rfl rfl ?_
   refine mv (v := .int .i64 _) rfl rfl ?_
   refine mv (v := .int .i64 _) rfl rfl ?_
   refine cl ca98 (c_partFrom _ ((i : Int) + 1) q (128 * i) (c - 128 * i) (entA ar i) (by have e := ((hR.keep H.fr).drop (k := 128 * i) (by omega)).take (k := 128) (by omega); rw [Nat.zero_add] at e; exact e) (by omega)) rfl ?_
   rintro _ w3 ⟨⟨A9, rfl, hno, hso⟩, F⟩
   refine mv (v := .tuple _) rfl rfl ?_
   refine xt rfl rfl rfl ?_
   refine xt rfl rfl rfl ?_
   refine asg (v := .pointer _) rfl rfl ?_
   refine asg (v := .nilIface) rfl rfl ?_
   refine nl ?_
   refine then_n ?_
   refine sq ?_
   refine sq ?_
   refine rg ?_
   refine mv (v := .nilIface) rfl rfl ?_
   refine neqI0 rfl Tryz.underlying73 rfl ?_
   refine nl ?_
   refine then_n ?_
   refine cbF rfl rfl ?_
   refine sk ?_
   refine then_n ?_
   refine sq ?_
   refine sq ?_
   refine rg ?_
   refine mv (v := .pointer _) rfl rfl ?_
   refine eqlP rfl Tryz.underlying123 rfl ?_
   refine nl ?_
   refine then_n ?_
   refine cn rfl (fun hc3 => ?_) (fun hc3 => ?_)
   ·replace O := O.keep F; have H := O.sh
    have hfr : freeE (entA ar i) = true := hno.symm.trans hc3
    refine ex ?_
    refine then_e ?_
    refine in_hit rfl ?_
    refine then_n ?_
    refine rg ?_
    refine mv (v := .slice _ _ _) rfl rfl ?_
    refine mv (v := .int .i64 _) rfl rfl ?_
    refine sllX (if c - 128 * i = 128 then 128 * i else 128 * i + 128) (n - 128 * (i + 1)) (c - 128 * (i + 1)) rfl rfl Tryz.underlying30 sz5_1 (by omega) ⟨fun h => by rw [if_pos (by omega)], fun h => by rw [if_neg (by omega)]; omega, by omega, by omega⟩ rfl ?_
    refine mv (v := .int .i64 _) rfl rfl ?_
    refine add rfl rfl (by first | exact w_i64 (by omega) | exact w_i64 (rng_i64 _) | rfl) rfl ?_
    refine asg (v := .slice _ _ _) rfl rfl ?_
    refine asg (v := .int .i64 _) rfl rfl ?_
    refine nl ?_
    refine loop_n ?_
    exact ⟨(i + 1, (if c - 128 * i = 128 then 128 * i else 128 * i + 128), D, cap, l), (by dsimp only; omega), ⟨by omega, fun h => by rw [if_neg (by omega)]; omega, by rw [hl, usedC_free hfr], by omega, O⟩, (fC (by first | rfl | exact congrArg (Value.int _) (by first | omega | assumption | (symm; assumption) | (simp; done) | (simp; omega)) | exact congrArg (fun n => Value.slice _ n _) (by first | omega | (simp; done) | (simp; omega))) (fC (by first | rfl | exact congrArg (Value.int _) (by first | omega | assumption | (symm; assumption) | (simp; done) | (simp; omega)) | exact congrArg (fun n => Value.slice _ n _) (by first | omega | (simp; done) | (simp; omega))) (fC (by first | rfl | exact congrArg (Value.int _) (by first | omega | assumption | (symm; assumption) | (simp; done) | (simp; omega)) | exact congrArg (fun n => Value.slice _ n _) (by first | omega | (simp; done) | (simp; omega))) (fN _)))), (by repeat (first | exact Agree.setL rfl Agree.mask | exact Agree.self _ _ | refine Agree.upd rfl ?_ | refine Agree.setL rfl ?_ | refine Agree.mask2 rfl ?_))⟩
   ·have hfr : freeE (entA ar i) = false := hno.symm.trans hc3
    obtain ⟨p, rfl, hp1, hp2⟩ := hso hfr
    replace O := O.new F hp1 hp2; clear hno hso hp2; have H := O.sh
    refine sk ?_
    refine then_n ?_
    refine sq ?_
    refine dr (by kernel_rfl) ?_
    have H := H.drew
    replace O := O.drew
    refine hold (fun _ => True) [] ?_
    refine tk (i := 0) rfl (by kernel_rfl) rfl trivial (fun _ _ => r_mv (v := .pointer _) rfl) ?_
    refine tk (i := 1) rfl (by kernel_rfl) rfl trivial (fun _ _ => r_mv (v := .pointer _) rfl) ?_
    refine tk (i := 2) rfl (by kernel_rfl) rfl trivial (fun _ _ => r_nc rfl) ?_
    refine tk (i := 3) rfl (by kernel_rfl) rfl trivial (fun _ _ => r_fa rfl fo126_2) ?_
    refine tk (i := 5) rfl (by kernel_rfl) rfl trivial (fun _ _ => r_mv (v := .pointer _) rfl) ?_
    refine tk (i := 6) rfl (by kernel_rfl) rfl trivial (fun _ _ => r_nc rfl) ?_
    refine tk (i := 7) rfl (by kernel_rfl) rfl trivial (fun _ _ => r_fa rfl fo126_1) ?_
    refine tk (i := 11) rfl (by kernel_rfl) rfl trivial (fun _ _ => r_mv (v := .int .i64 _) rfl) ?_
    refine tk (i := 12) rfl (by kernel_rfl) rfl trivial (fun _ _ => r_cvi rfl rfl Tryz.underlying28 (by first | exact w_u64 (by omega) | exact w_u64 (rng_u64 _) | exact m_u64 _)) ?_
    refine unfree ?_
    refine holdH H [16] ?_
    refine tk (i := 4) rfl (by kernel_rfl) rfl H (fun w' H => r_ld H rfl sc28 rfl) ?_
    refine tk (i := 8) rfl (by kernel_rfl) rfl H (fun w' H => r_ld H rfl sc28 rfl) ?_
    refine tk (i := 9) rfl (by kernel_rfl) rfl H (fun w' H => r_sub rfl rfl (by first | exact w_u64 (by omega) | exact w_u64 (rng_u64 _) | exact m_u64 _)) ?_
    refine tk (i := 10) rfl (by kernel_rfl) rfl H (fun w' H => r_add rfl rfl (by first | exact w_u64 (by omega) | exact w_u64 (rng_u64 _) | exact m_u64 _)) ?_
    refine tk (i := 13) rfl (by kernel_rfl) rfl H (fun w' H => r_mul rfl rfl (by first | exact w_u64 (by omega) | exact w_u64 (rng_u64 _) | exact m_u64 _)) ?_
    refine fk (i := 14) (by kernel_rfl) rfl rfl rfl ?_
    refine nc rfl rfl ?_
    refine nl ?_
    refine then_n ?_
    refine ⟨H, ?_⟩
    refine tk (i := 15) rfl (by kernel_rfl) rfl H (fun w' H => r_fa rfl fo126_3) ?_
    refine fb (i := 16) (by kernel_rfl) rfl rfl rfl ?_
    refine st (v := .int .u64 _) H rfl rfl sc28 rfl (by show 0 + 3 < 10; decide) (by omega) ?_
    intro w95 H1 F; replace O := O.put F H1.look; clear H H1 F; have H := O.sh
    refine nl ?_
    refine then_n ?_
    refine dn (by kernel_rfl) ?_
    refine then_n ?_
    refine rg ?_
    refine mv (v := .slice _ _ _) rfl rfl ?_
    refine mv (v := .pointer _) rfl rfl ?_
    refine bsl (sz := 1) (out := ?o1) H Tryz.underlying104 ze123 sz123_1 (by decide) ?f1 rfl ?_
    case f1 =>
     refine FS.one (v := .pointer _) rfl rfl rfl (by first | decide | simp) ?_
     exact FS.nil
    intro b2 w4 hb2 H1 F; replace O := O.new F hb2 H1.look; clear H H1 F; have H := O.sh
    refine apO (zs := [.pointer none]) [.pointer (some ⟨p, 0, none⟩)] O rfl rfl Tryz.underlying104 ri123 (by first | rfl | simp) (cells_look H.look) (by simp [Value.oneCell']) (by simp) (by omega) (by unfold maxLen; omega) rfl ?_
    clear O H; intro D9 cp9 w5 O
    replace O := O.drop; have H := O.sh
    refine asg (v := .slice _ _ _) rfl rfl ?_
    refine nl ?_
    refine in_n ?_
    refine then_n ?_
    refine rg ?_
    refine mv (v := .slice _ _ _) rfl rfl ?_
    refine mv (v := .int .i64 _) rfl rfl ?_
    refine sllX (if c - 128 * i = 128 then 128 * i else 128 * i + 128) (n - 128 * (i + 1)) (c - 128 * (i + 1)) rfl rfl Tryz.underlying30 sz5_1 (by omega) ⟨fun h => by rw [if_pos (by omega)], fun h => by rw [if_neg (by omega)]; omega, by omega, by omega⟩ rfl ?_
    refine mv (v := .int .i64 _) rfl rfl ?_
    refine add rfl rfl (by first | exact w_i64 (by omega) | exact w_i64 (rng_i64 _) | rfl) rfl ?_
    refine asg (v := .slice _ _ _) rfl rfl ?_
    refine asg (v := .int .i64 _) rfl rfl ?_
    refine nl ?_
    refine loop_n ?_
    exact ⟨(i + 1, (if c - 128 * i = 128 then 128 * i else 128 * i + 128), D9, cp9, l ++ [(p, entC ((i : Int) + 1) (szE (entA ar i)) (entA ar i))]), (by dsimp only; omega), ⟨by omega, fun h => by rw [if_neg (by omega)]; omega, by rw [List.map_append, hl, usedC_use hfr]; rfl, by simp; omega, by rw [ptrs_snoc, List.length_append]; exact O.perm (perm_snoc (x := (p, entC ((i : Int) + 1) (szE (entA ar i)) (entA ar i))) [])⟩, (fC (by first | rfl | exact congrArg (Value.int _) (by first | omega | assumption | (symm; assumption) | (simp; done) | (simp; omega)) | exact congrArg (fun n => Value.slice _ n _) (by first | omega | (simp; done) | (simp; omega))) (fC (by first | rfl | exact congrArg (Value.int _) (by first | omega | assumption | (symm; assumption) | (simp; done) | (simp; omega)) | exact congrArg (fun n => Value.slice _ n _) (by first | omega | (simp; done) | (simp; omega))) (fC (by first | rfl | exact congrArg (Value.int _) (by first | omega | assumption | (symm; assumption) | (simp; done) | (simp; omega)) | exact congrArg (fun n => Value.slice _ n _) (by first | omega | (simp; done) | (simp; omega))) (fN _)))), (by repeat (first | exact Agree.setL rfl Agree.mask | exact Agree.self _ _ | refine Agree.upd rfl ?_ | refine Agree.setL rfl ?_ | refine Agree.mask2 rfl ?_))⟩
  ·refine ex ?_
   refine then_e ?_
   refine loop_e ?_
   refine in_hit rfl ?_
   refine then_n ?_
   refine sq ?_
   refine rg ?_
   refine mv (v := .slice _ _ _) rfl rfl ?_
   refine asg (v := .slice _ _ _) rfl rfl ?_
   refine asg (v := .nilIface) rfl rfl ?_
   refine nl ?_
   refine then_n ?_
   refine rt ?_
   refine fin_r ?_
   obtain rfl : i = m := by omega
   exact ⟨_, _, l, rfl, hl, hll, O⟩

end Go.Proofs.YthcaejaaalkglaaGreatDoor.X

