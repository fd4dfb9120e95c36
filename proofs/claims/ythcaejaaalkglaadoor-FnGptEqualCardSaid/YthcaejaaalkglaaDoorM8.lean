/- Laws and walks on the road to the statement: P37, CapPure, P38, P39, P40. -/
import Derived.Test.YthcaejaaalkglaaDoorM7
/- Walks of functions, printed by a program of this claim. -/
namespace Go.Proofs.YthcaejaaalkglaaDoor.X
set_option linter.unusedVariables false
set_option linter.unusedSimpArgs false
open Go Go.RowKit
namespace PF
theorem ag103_10 : aggB Tryd.prog 103 10 = true := by kernel_rfl
theorem ca48 : callable Tryd.prog 48 = true := by kernel_rfl
theorem eg103 : Tryd.prog.eqGuardType Tryd.prog.depth 103 = false := by kernel_rfl
end PF
open PF
theorem fsPT : Tryd.prog.underlying 103 = some (.struct (Tryd.prog.fieldsOf 103)) := by kernel_rfl
theorem shPT : Tryd.prog.stoodInHeld 103 = false := by kernel_rfl
theorem okPT : okF Tryd.prog 0 (Tryd.prog.fieldsOf 103).toList ksW = true := by kernel_rfl
set_option maxRecDepth 100000 in
set_option maxHeartbeats 4000000 in
theorem c_cmpA (w : World) (a1 a2 : Addr) (m1 c1 m2 c2 : Nat) (l1 l2 : PL) (ps qs : List GP) (h1 : PW 103 w (some a1) m1 l1 ps) (h2 : PW 103 w (some a2) m2 l2 qs) (hz : ∀ p ∈ ps, p.ty ≠ zG) (hm : m1 ≤ 200) : Calls Tryd.prog 48 #[.slice (some a1) m1 c1, .slice (some a2) m2 c2] w (Ret fun v w' => v = .bool (cmpP ps qs) ∧ Fr [] w w') := by
  refine enter (fun ρ => ρ 4) Tryd.func48 rfl rfl rfl (res1 rfl) ?_
  have H := SH.nil w
  have hl1 := h1.plen
  have hl2 := h2.plen
  refine sq ?_
  refine rg ?_
  refine asg (v := .bool _) rfl rfl ?_
  refine nl ?_
  refine then_n ?_
  refine sq ?_
  refine sq ?_
  refine rg ?_
  refine mv (v := .slice _ _ _) rfl rfl ?_
  refine eqlN rfl Tryd.underlying97 rfl ?_
  refine mv (v := .bool _) rfl rfl ?_
  first | refine spL (t := 10) (b := false) rfl ?_ | refine spF (t := 10) rfl rfl ?_   -- guard 1
  refine gn rfl rfl ?_
  refine gn rfl rfl ?_
  refine pkF (v := .bool _) rfl rfl rfl ?_
  refine mv (v := .bool _) rfl rfl ?_
  refine gy rfl ?_
  refine mv (v := .slice _ _ _) rfl rfl ?_
  refine gy rfl ?_
  refine eqlN rfl Tryd.underlying97 rfl ?_
  refine gy rfl ?_
  refine mv (v := .bool _) rfl rfl ?_
  first | refine spL (t := 17) (b := false) rfl ?_ | refine spF (t := 17) rfl rfl ?_   -- guard 2
  refine gn rfl rfl ?_
  refine gn rfl rfl ?_
  refine gy rfl ?_
  refine pkF (v := .bool _) rfl rfl rfl ?_
  refine pkF (v := .bool _) rfl rfl rfl ?_
  refine nl ?_
  refine then_n ?_
  refine cbF rfl rfl ?_
  refine sk ?_
  refine then_n ?_
  refine sq ?_
  refine sq ?_
  refine rg ?_
  refine mv (v := .slice _ _ _) rfl rfl ?_
  refine eqlN rfl Tryd.underlying97 rfl ?_
  refine mv (v := .bool _) rfl rfl ?_
  first | refine spL (t := 24) (b := false) rfl ?_ | refine spF (t := 24) rfl rfl ?_   -- guard 3
  refine gn rfl rfl ?_
  refine gn rfl rfl ?_
  refine pkF (v := .bool _) rfl rfl rfl ?_
  refine nl ?_
  refine then_n ?_
  refine cbF rfl rfl ?_
  refine sk ?_
  refine then_n ?_
  refine sq ?_
  refine sq ?_
  refine rg ?_
  refine mv (v := .slice _ _ _) rfl rfl ?_
  refine lnS rfl Tryd.underlying97 rfl ?_
  refine mv (v := .slice _ _ _) rfl rfl ?_
  refine lnS rfl Tryd.underlying97 rfl ?_
  refine neq rfl rfl rfl ?_
  refine nl ?_
  refine then_n ?_
  first | refine cd rfl (fun hc1 => ?_) (fun hc1 => ?_) | refine cn rfl (fun hc1 => ?_) (fun hc1 => ?_)   -- test 1
  · refine sq ?_
    refine rg ?_
    refine asg (v := .bool _) rfl rfl ?_
    refine nl ?_
    refine then_n ?_
    refine rt ?_
    refine then_r ?_
    refine fin_r ?_
    exact ⟨congrArg Value.bool (cmpP_l (by omega)).symm, H.fr⟩
  · refine sk ?_
    refine then_n ?_
    refine sq ?_
    refine rg ?_
    refine asg (v := .bool _) rfl rfl ?_
    refine nl ?_
    refine then_n ?_
    refine sq ?_
    refine sq ?_
    refine rg ?_
    refine mv (v := .slice _ _ _) rfl rfl ?_
    refine lnS rfl Tryd.underlying97 rfl ?_
    refine mv (v := .int .i64 _) rfl rfl ?_
    refine nl ?_
    refine then_n ?_
    refine bk ?_
    refine lpM (α := Nat) [5, 6, 7, 35, 36, 37, 38, 39, 40, 41, 42, 43, 44, 45, 46, 47, 48, 49, 50, 51, 52, 53, 54, 55, 56, 57, 58, 59, 60, 61, 62, 63, 64, 65] (fun i => [(5, .bool true), (35, .int .i64 (i : Int))]) (fun i w' => i ≤ m1 ∧ (∀ j p q, j < i → ps[j]? = some p → qs[j]? = some q → eqPT p q = true) ∧ SH w [] w' []) (fun i => m1 - i) 0 ?_ (fCX (fCX (fN _))) ?_   -- loop 1
    · exact ⟨by omega, fun j p q hj => by omega, H⟩
    · rintro i ρx w1 ⟨hi, hs, H⟩
      refine sq ?_
      refine rg ?_
      refine lss rfl rfl rfl ?_
      refine nl ?_
      refine then_n ?_
      refine sq ?_
      first | refine cd rfl (fun hc2 => ?_) (fun hc2 => ?_) | refine cn rfl (fun hc2 => ?_) (fun hc2 => ?_)   -- test 2
      · obtain ⟨b1, p, hpi, x1, y1⟩ := h1.at (i := i) (by omega)
        obtain ⟨b2, q, hqi, x2, y2⟩ := h2.at (i := i) (by omega)
        have hzt := hz p (List.mem_of_getElem? hpi)
        have z4 : w.cell? ⟨b1, 4, none⟩ = some (.string (str p.ty)) := cell_at y1
        refine sk ?_
        refine then_n ?_
        refine sq ?_
        refine bk ?_
        refine sq ?_
        refine rg ?_
        refine mv (v := .int .i64 _) rfl rfl ?_
        refine iBN (a1.add i) rfl rfl Tryd.underlying97 sz100_1 (by omega) (by simp) rfl ?_
        refine lc (v := .pointer (some ⟨b1, 0, none⟩)) rfl (H.fr.cell x1 (by simp)) sc100 rfl ?_
        refine asg (v := .int .i64 _) rfl rfl ?_
        refine asg (v := .pointer _) rfl rfl ?_
        refine nl ?_
        refine then_n ?_
        refine sq ?_
        refine sq ?_
        refine rg ?_
        refine mv (v := .pointer _) rfl rfl ?_
        first | refine nc rfl rfl ?_ | refine nci rfl rfl ?_
        refine fa rfl fo103_4 rfl ?_
        first | refine ld H rfl sc101 rfl rfl ?_ | refine lc rfl (by first | assumption | exact H.fr.cell (by assumption) (by simp)) sc101 rfl ?_ | refine ld H rfl sc101 (by assumption) rfl ?_
        refine eqlT rfl rfl rfl ?_
        refine mv (v := .bool _) rfl rfl ?_
        first | refine spL (t := 45) (b := false) rfl ?_ | refine spF (t := 45) rfl hzt ?_   -- guard 4
        refine gn rfl rfl ?_
        refine gn rfl rfl ?_
        refine gn rfl rfl ?_
        refine gn rfl rfl ?_
        refine gn rfl rfl ?_
        refine gn rfl rfl ?_
        refine gn rfl rfl ?_
        refine gn rfl rfl ?_
        refine pkF (v := .bool _) rfl rfl rfl ?_
        refine nl ?_
        refine then_n ?_
        refine cbF rfl rfl ?_
        refine sk ?_
        refine then_n ?_
        refine sq ?_
        refine dr (by kernel_rfl) ?_   -- region 12
        have H := H.drew
        refine hold (fun _ => True) [] ?_
        refine tk (i := 0) rfl (by kernel_rfl) rfl trivial (fun _ _ => r_mv (v := .pointer _) rfl) ?_
        first | refine tk (i := 1) rfl (by kernel_rfl) rfl trivial (fun _ _ => r_nc rfl) ?_ | refine tk (i := 1) rfl (by kernel_rfl) rfl trivial (fun _ _ => r_nci rfl) ?_
        refine tk (i := 3) rfl (by kernel_rfl) rfl trivial (fun _ _ => r_mv (v := .slice _ _ _) rfl) ?_
        refine tk (i := 4) rfl (by kernel_rfl) rfl trivial (fun _ _ => r_mv (v := .int .i64 _) rfl) ?_
        refine tk (i := 5) rfl (by kernel_rfl) rfl trivial (fun _ _ => r_iBN (a2.add i) rfl rfl Tryd.underlying97 sz100_1 (by omega) (by simp)) ?_
        refine unfree ?_
        refine holdH H [] ?_
        refine tk (i := 2) rfl (by kernel_rfl) rfl H (fun w' H => r_lw (vs := pcW p) rfl ag103_10 rfl (fun j v h => H.fr.cell (heap_cells y1 j v h) (by simp))) ?_
        refine tk (i := 6) rfl (by kernel_rfl) rfl H (fun w' H => r_lc (v := .pointer (some ⟨b2, 0, none⟩)) rfl (H.fr.cell x2 (by simp)) sc100) ?_
        first | refine tk (i := 7) rfl (by kernel_rfl) rfl H (fun w' H => r_nc rfl) ?_ | refine tk (i := 7) rfl (by kernel_rfl) rfl H (fun w' H => r_nci rfl) ?_
        refine tk (i := 8) rfl (by kernel_rfl) rfl H (fun w' H => r_lw (vs := pcW q) rfl ag103_10 rfl (fun j v h => H.fr.cell (heap_cells y2 j v h) (by simp))) ?_
        refine tk (i := 9) rfl (by kernel_rfl) rfl H (fun w' H => r_neqS rfl rfl eg103 fsPT shPT okPT) ?_
        refine da (by kernel_rfl) ?_
        refine then_n ?_
        first | refine cd rfl (fun hc3 => ?_) (fun hc3 => ?_) | refine cn rfl (fun hc3 => ?_) (fun hc3 => ?_)   -- test 3
        · refine sq ?_
          refine rg ?_
          refine asg (v := .bool _) rfl rfl ?_
          refine nl ?_
          refine then_n ?_
          refine ex ?_
          refine in_miss rfl ?_
          refine then_e ?_
          refine loop_e ?_
          refine in_hit rfl ?_
          refine then_n ?_
          refine sq ?_
          refine rg ?_
          refine mv (v := .bool _) rfl rfl ?_
          refine asg (v := .bool _) rfl rfl ?_
          refine nl ?_
          refine then_n ?_
          refine rt ?_
          refine fin_r ?_
          exact ⟨congrArg Value.bool (cmpP_f hpi hqi (by simpa using hc3)).symm, H.fr⟩
        · refine sk ?_
          refine in_n ?_
          refine then_n ?_
          refine rg ?_
          refine add rfl rfl (by first | exact w_i64 (by omega) | exact w_i64 (rng_i64 _) | rfl) rfl ?_
          refine mv (v := .int .i64 _) rfl rfl ?_
          refine nl ?_
          refine loop_n ?_
          exact ⟨i + 1, (by (try dsimp only); omega), ⟨by omega, cmpP_next hs hpi hqi (by simpa using hc3), H⟩, (fCX (fCX (fN _))), agX⟩
      · refine ex ?_
        refine then_e ?_
        refine loop_e ?_
        refine in_hit rfl ?_
        refine then_n ?_
        refine sq ?_
        refine rg ?_
        refine mv (v := .bool _) rfl rfl ?_
        refine asg (v := .bool _) rfl rfl ?_
        refine nl ?_
        refine then_n ?_
        refine rt ?_
        refine fin_r ?_
        obtain rfl : i = m1 := by omega
        exact ⟨congrArg Value.bool (cmpP_t (by omega) (fun j p q hj => hs j p q (by omega))).symm, H.fr⟩
set_option maxRecDepth 100000 in
set_option maxHeartbeats 1000000 in
theorem c_cmpB (w : World) (a2 : Addr) (m1 c1 m2 c2 : Nat) (l1 l2 : PL) (ps qs : List GP) (h1 : PW 103 w none m1 l1 ps) (h2 : PW 103 w (some a2) m2 l2 qs) (hz : ∀ p ∈ ps, p.ty ≠ zG) (hm : m1 ≤ 200) (hne : m1 ≠ m2) : Calls Tryd.prog 48 #[.slice none m1 c1, .slice (some a2) m2 c2] w (Ret fun v w' => v = .bool (cmpP ps qs) ∧ Fr [] w w') := by
  refine enter (fun ρ => ρ 4) Tryd.func48 rfl rfl rfl (res1 rfl) ?_
  have H := SH.nil w
  have hl1 := h1.plen
  have hl2 := h2.plen
  refine sq ?_
  refine rg ?_
  refine asg (v := .bool _) rfl rfl ?_
  refine nl ?_
  refine then_n ?_
  refine sq ?_
  refine sq ?_
  refine rg ?_
  refine mv (v := .slice _ _ _) rfl rfl ?_
  refine eqlN rfl Tryd.underlying97 rfl ?_
  refine mv (v := .bool _) rfl rfl ?_
  first | refine spL (t := 10) (b := true) rfl ?_ | refine spT (t := 10) rfl rfl ?_   -- guard 1
  refine gy rfl ?_
  refine mv (v := .slice _ _ _) rfl rfl ?_
  refine gy rfl ?_
  refine neqN rfl Tryd.underlying97 rfl ?_
  refine pkT (v := .bool _) rfl rfl rfl ?_
  refine mv (v := .bool _) rfl rfl ?_
  first | refine spL (t := 14) (b := true) rfl ?_ | refine spT (t := 14) rfl rfl ?_   -- guard 2
  refine gn rfl rfl ?_
  refine gn rfl rfl ?_
  refine gn rfl rfl ?_
  refine gnU rfl rfl ?_
  refine gnU rfl rfl ?_
  refine gn rfl rfl ?_
  refine pkT (v := .bool _) rfl rfl rfl ?_
  refine nl ?_
  refine then_n ?_
  refine cbT rfl rfl ?_
  refine sq ?_
  refine rg ?_
  refine asg (v := .bool _) rfl rfl ?_
  refine nl ?_
  refine then_n ?_
  refine rt ?_
  refine then_r ?_
  refine fin_r ?_
  exact ⟨congrArg Value.bool (cmpP_l (by omega)).symm, H.fr⟩
set_option maxRecDepth 100000 in
set_option maxHeartbeats 1000000 in
theorem c_cmpC (w : World) (a1 : Addr) (m1 c1 m2 c2 : Nat) (l1 l2 : PL) (ps qs : List GP) (h1 : PW 103 w (some a1) m1 l1 ps) (h2 : PW 103 w none m2 l2 qs) (hz : ∀ p ∈ ps, p.ty ≠ zG) (hm : m1 ≤ 200) (hne : m1 ≠ m2) : Calls Tryd.prog 48 #[.slice (some a1) m1 c1, .slice none m2 c2] w (Ret fun v w' => v = .bool (cmpP ps qs) ∧ Fr [] w w') := by
  refine enter (fun ρ => ρ 4) Tryd.func48 rfl rfl rfl (res1 rfl) ?_
  have H := SH.nil w
  have hl1 := h1.plen
  have hl2 := h2.plen
  refine sq ?_
  refine rg ?_
  refine asg (v := .bool _) rfl rfl ?_
  refine nl ?_
  refine then_n ?_
  refine sq ?_
  refine sq ?_
  refine rg ?_
  refine mv (v := .slice _ _ _) rfl rfl ?_
  refine eqlN rfl Tryd.underlying97 rfl ?_
  refine mv (v := .bool _) rfl rfl ?_
  first | refine spL (t := 10) (b := false) rfl ?_ | refine spF (t := 10) rfl rfl ?_   -- guard 1
  refine gn rfl rfl ?_
  refine gn rfl rfl ?_
  refine pkF (v := .bool _) rfl rfl rfl ?_
  refine mv (v := .bool _) rfl rfl ?_
  refine gy rfl ?_
  refine mv (v := .slice _ _ _) rfl rfl ?_
  refine gy rfl ?_
  refine eqlN rfl Tryd.underlying97 rfl ?_
  refine gy rfl ?_
  refine mv (v := .bool _) rfl rfl ?_
  first | refine spL (t := 17) (b := true) rfl ?_ | refine spT (t := 17) rfl rfl ?_   -- guard 2
  refine gy rfl ?_
  refine mv (v := .slice _ _ _) rfl rfl ?_
  refine gy rfl ?_
  refine neqN rfl Tryd.underlying97 rfl ?_
  refine gy rfl ?_
  refine pkT (v := .bool _) rfl rfl rfl ?_
  refine pkF (v := .bool _) rfl rfl rfl ?_
  refine nl ?_
  refine then_n ?_
  first | refine cT rfl rfl ?_ | refine cbT rfl rfl ?_   -- test 1
  refine sq ?_
  refine rg ?_
  refine asg (v := .bool _) rfl rfl ?_
  refine nl ?_
  refine then_n ?_
  refine rt ?_
  refine then_r ?_
  refine fin_r ?_
  exact ⟨congrArg Value.bool (cmpP_l (by omega)).symm, H.fr⟩
set_option maxRecDepth 100000 in
set_option maxHeartbeats 1000000 in
theorem c_cmpD (w : World) (m1 c1 m2 c2 : Nat) (l1 l2 : PL) (ps qs : List GP) (h1 : PW 103 w none m1 l1 ps) (h2 : PW 103 w none m2 l2 qs) (hz : ∀ p ∈ ps, p.ty ≠ zG) (hm : m1 ≤ 200) (hz1 : m1 = 0) (hz2 : m2 = 0) : Calls Tryd.prog 48 #[.slice none m1 c1, .slice none m2 c2] w (Ret fun v w' => v = .bool (cmpP ps qs) ∧ Fr [] w w') := by
  refine enter (fun ρ => ρ 4) Tryd.func48 rfl rfl rfl (res1 rfl) ?_
  have H := SH.nil w
  have hl1 := h1.plen
  have hl2 := h2.plen
  refine sq ?_
  refine rg ?_
  refine asg (v := .bool _) rfl rfl ?_
  refine nl ?_
  refine then_n ?_
  refine sq ?_
  refine sq ?_
  refine rg ?_
  refine mv (v := .slice _ _ _) rfl rfl ?_
  refine eqlN rfl Tryd.underlying97 rfl ?_
  refine mv (v := .bool _) rfl rfl ?_
  first | refine spL (t := 10) (b := true) rfl ?_ | refine spT (t := 10) rfl rfl ?_   -- guard 1
  refine gy rfl ?_
  refine mv (v := .slice _ _ _) rfl rfl ?_
  refine gy rfl ?_
  refine neqN rfl Tryd.underlying97 rfl ?_
  refine pkT (v := .bool _) rfl rfl rfl ?_
  refine mv (v := .bool _) rfl rfl ?_
  first | refine spL (t := 14) (b := false) rfl ?_ | refine spF (t := 14) rfl rfl ?_   -- guard 2
  refine gy rfl ?_
  refine mv (v := .slice _ _ _) rfl rfl ?_
  refine gy rfl ?_
  refine eqlN rfl Tryd.underlying97 rfl ?_
  refine gy rfl ?_
  refine mv (v := .bool _) rfl rfl ?_
  first | refine spL (t := 17) (b := true) rfl ?_ | refine spT (t := 17) rfl rfl ?_   -- guard 3
  refine gy rfl ?_
  refine mv (v := .slice _ _ _) rfl rfl ?_
  refine gy rfl ?_
  refine neqN rfl Tryd.underlying97 rfl ?_
  refine gy rfl ?_
  refine pkT (v := .bool _) rfl rfl rfl ?_
  refine pkF (v := .bool _) rfl rfl rfl ?_
  refine nl ?_
  refine then_n ?_
  first | refine cF rfl rfl ?_ | refine cbF rfl rfl ?_   -- test 1
  refine sk ?_
  refine then_n ?_
  refine sq ?_
  refine sq ?_
  refine rg ?_
  refine mv (v := .slice _ _ _) rfl rfl ?_
  refine eqlN rfl Tryd.underlying97 rfl ?_
  refine mv (v := .bool _) rfl rfl ?_
  first | refine spL (t := 24) (b := true) rfl ?_ | refine spT (t := 24) rfl rfl ?_   -- guard 4
  refine gy rfl ?_
  refine mv (v := .slice _ _ _) rfl rfl ?_
  refine gy rfl ?_
  refine eqlN rfl Tryd.underlying97 rfl ?_
  refine pkT (v := .bool _) rfl rfl rfl ?_
  refine nl ?_
  refine then_n ?_
  first | refine cT rfl rfl ?_ | refine cbT rfl rfl ?_   -- test 2
  refine sq ?_
  refine rg ?_
  refine asg (v := .bool _) rfl rfl ?_
  refine nl ?_
  refine then_n ?_
  refine rt ?_
  refine then_r ?_
  refine fin_r ?_
  exact ⟨congrArg Value.bool (cmpP_t (by omega) (fun j p q hj => by omega)).symm, H.fr⟩
theorem c_cmp (w : World) (D1 D2 : Option Addr) (m1 c1 m2 c2 : Nat) (l1 l2 : PL) (ps qs : List GP) (h1 : PW 103 w D1 m1 l1 ps) (h2 : PW 103 w D2 m2 l2 qs) (hz : ∀ p ∈ ps, p.ty ≠ zG) (hm : m1 ≤ 200) : Calls Tryd.prog 48 #[.slice D1 m1 c1, .slice D2 m2 c2] w (Ret fun v w' => v = .bool (cmpP ps qs) ∧ Fr [] w w') := by
  cases D1 with
  | none =>
    have z1 : m1 = 0 := Classical.byContradiction fun h => by obtain ⟨ad, e⟩ := h1.some_of h; cases e
    cases D2 with
    | none =>
      have z2 : m2 = 0 := Classical.byContradiction fun h => by obtain ⟨ad, e⟩ := h2.some_of h; cases e
      exact c_cmpD w m1 c1 m2 c2 l1 l2 ps qs h1 h2 hz hm z1 z2
    | some a2 => exact c_cmpB w a2 m1 c1 m2 c2 l1 l2 ps qs h1 h2 hz hm (fun h => by have := h2.nil (h.symm.trans z1); cases this)
  | some a1 =>
    cases D2 with
    | none =>
      have z2 : m2 = 0 := Classical.byContradiction fun h => by obtain ⟨ad, e⟩ := h2.some_of h; cases e
      exact c_cmpC w a1 m1 c1 m2 c2 l1 l2 ps qs h1 h2 hz hm (fun h => by have := h1.nil (h.trans z2); cases this)
    | some a2 => exact c_cmpA w a1 a2 m1 c1 m2 c2 l1 l2 ps qs h1 h2 hz hm
set_option maxRecDepth 100000 in
set_option maxHeartbeats 8000000 in
theorem c_tabEqual (w : World) (t1 t2 : Nat) (D1 D2 : Option Addr) (m1 c1 m2 c2 : Nat) (g : List UInt8) (rc1 rc2 : Bool) (l1 l2 : PL) (ps qs : List GP) (hp1 : w.heap[t1]? = some (.cells (tbZ D1 m1 c1 g true rc1).toArray 99 (0, 0))) (hp2 : w.heap[t2]? = some (.cells (tbZ D2 m2 c2 g true rc2).toArray 99 (0, 0))) (h1 : PW 103 w D1 m1 l1 ps) (h2 : PW 103 w D2 m2 l2 qs) (hz : ∀ p ∈ ps, p.ty ≠ zG) (hm : m1 ≤ 200) : Calls Tryd.prog 35 #[.pointer (some ⟨t1, 0, none⟩), .pointer (some ⟨t2, 0, none⟩)] w (Ret fun v w' => v = .bool (cmpP ps qs) ∧ Fr [] w w') := by
  refine enter (fun ρ => ρ 4) Tryd.func35 rfl rfl rfl (res1 rfl) ?_
  have H := SH.nil w
  have e1_0 : w.cell? ⟨t1, 0, none⟩ = some (.slice D1 m1 c1) := cell_at hp1
  have e1_1 : w.cell? ⟨t1, 1, none⟩ = some (.int .i64 512) := cell_at hp1
  have e1_2 : w.cell? ⟨t1, 2, none⟩ = some (.int .i64 512) := cell_at hp1
  have e1_3 : w.cell? ⟨t1, 3, none⟩ = some (.string (str g)) := cell_at hp1
  have e1_4 : w.cell? ⟨t1, 4, none⟩ = some (.bool true) := cell_at hp1
  have e1_6 : w.cell? ⟨t1, 6, none⟩ = some (.int .i64 0) := cell_at hp1
  have e1_7 : w.cell? ⟨t1, 7, none⟩ = some (.int .u32 0) := cell_at hp1
  have e1_8 : w.cell? ⟨t1, 8, none⟩ = some (.int .u64 0) := cell_at hp1
  have e1_9 : w.cell? ⟨t1, 9, none⟩ = some (.int .u32 0) := cell_at hp1
  have e1_10 : w.cell? ⟨t1, 10, none⟩ = some (.int .u64 0) := cell_at hp1
  have e1_11 : w.cell? ⟨t1, 11, none⟩ = some (.int .u64 0) := cell_at hp1
  have e1_12 : w.cell? ⟨t1, 12, none⟩ = some (.int .u64 0) := cell_at hp1
  have e1_13 : w.cell? ⟨t1, 13, none⟩ = some (.int .u64 0) := cell_at hp1
  have e2_0 : w.cell? ⟨t2, 0, none⟩ = some (.slice D2 m2 c2) := cell_at hp2
  have e2_1 : w.cell? ⟨t2, 1, none⟩ = some (.int .i64 512) := cell_at hp2
  have e2_2 : w.cell? ⟨t2, 2, none⟩ = some (.int .i64 512) := cell_at hp2
  have e2_3 : w.cell? ⟨t2, 3, none⟩ = some (.string (str g)) := cell_at hp2
  have e2_4 : w.cell? ⟨t2, 4, none⟩ = some (.bool true) := cell_at hp2
  have e2_6 : w.cell? ⟨t2, 6, none⟩ = some (.int .i64 0) := cell_at hp2
  have e2_7 : w.cell? ⟨t2, 7, none⟩ = some (.int .u32 0) := cell_at hp2
  have e2_8 : w.cell? ⟨t2, 8, none⟩ = some (.int .u64 0) := cell_at hp2
  have e2_9 : w.cell? ⟨t2, 9, none⟩ = some (.int .u32 0) := cell_at hp2
  have e2_10 : w.cell? ⟨t2, 10, none⟩ = some (.int .u64 0) := cell_at hp2
  have e2_11 : w.cell? ⟨t2, 11, none⟩ = some (.int .u64 0) := cell_at hp2
  have e2_12 : w.cell? ⟨t2, 12, none⟩ = some (.int .u64 0) := cell_at hp2
  have e2_13 : w.cell? ⟨t2, 13, none⟩ = some (.int .u64 0) := cell_at hp2
  refine sq ?_
  refine rg ?_
  refine asg (v := .bool _) rfl rfl ?_
  refine nl ?_
  refine then_n ?_
  refine sq ?_
  refine sq ?_
  refine rg ?_
  refine mv (v := .pointer _) rfl rfl ?_
  refine eqlP rfl Tryd.underlying62 rfl ?_
  refine nl ?_
  refine then_n ?_
  first | refine cF rfl rfl ?_ | refine cbF rfl rfl ?_   -- test 1
  refine sk ?_
  refine then_n ?_
  refine sq ?_
  refine dr (by kernel_rfl) ?_   -- region 3
  have H := H.drew
  refine holdH H [] ?_
  refine relA (listed' := lk 109 0) (by kernel_rfl) ?_
  refine tk (i := 0) (listed' := lk 109 1) rfl (by as_aux_lemma => kernel_rfl) (by kernel_rfl) H (fun w' H => r_mv (v := .pointer _) rfl) ?_
  first | refine tk (i := 1) (listed' := lk 109 2) rfl (by as_aux_lemma => kernel_rfl) (by kernel_rfl) H (fun w' H => r_nc rfl) ?_ | refine tk (i := 1) (listed' := lk 109 2) rfl (by as_aux_lemma => kernel_rfl) (by kernel_rfl) H (fun w' H => r_nci rfl) ?_
  refine tk (i := 2) (listed' := lk 109 3) rfl (by as_aux_lemma => kernel_rfl) (by kernel_rfl) H (fun w' H => r_fa rfl fo99_1) ?_
  first | refine tk (i := 3) (listed' := lk 109 4) rfl (by as_aux_lemma => kernel_rfl) (by kernel_rfl) H (fun w' H => r_ld H rfl sc3 rfl) ?_ | refine tk (i := 3) (listed' := lk 109 4) rfl (by as_aux_lemma => kernel_rfl) (by kernel_rfl) H (fun w' H => r_lc rfl (by first | assumption | exact H.fr.cell (by assumption) (by simp)) sc3) ?_ | refine tk (i := 3) (listed' := lk 109 4) rfl (by as_aux_lemma => kernel_rfl) (by kernel_rfl) H (fun w' H => r_ld H rfl sc3 (by assumption)) ?_
  refine tk (i := 4) (listed' := lk 109 5) rfl (by as_aux_lemma => kernel_rfl) (by kernel_rfl) H (fun w' H => r_mv (v := .pointer _) rfl) ?_
  first | refine tk (i := 5) (listed' := lk 109 6) rfl (by as_aux_lemma => kernel_rfl) (by kernel_rfl) H (fun w' H => r_nc rfl) ?_ | refine tk (i := 5) (listed' := lk 109 6) rfl (by as_aux_lemma => kernel_rfl) (by kernel_rfl) H (fun w' H => r_nci rfl) ?_
  refine tk (i := 6) (listed' := lk 109 7) rfl (by as_aux_lemma => kernel_rfl) (by kernel_rfl) H (fun w' H => r_fa rfl fo99_1) ?_
  first | refine tk (i := 7) (listed' := lk 109 8) rfl (by as_aux_lemma => kernel_rfl) (by kernel_rfl) H (fun w' H => r_ld H rfl sc3 rfl) ?_ | refine tk (i := 7) (listed' := lk 109 8) rfl (by as_aux_lemma => kernel_rfl) (by kernel_rfl) H (fun w' H => r_lc rfl (by first | assumption | exact H.fr.cell (by assumption) (by simp)) sc3) ?_ | refine tk (i := 7) (listed' := lk 109 8) rfl (by as_aux_lemma => kernel_rfl) (by kernel_rfl) H (fun w' H => r_ld H rfl sc3 (by assumption)) ?_
  refine tk (i := 8) (listed' := lk 109 9) rfl (by as_aux_lemma => kernel_rfl) (by kernel_rfl) H (fun w' H => r_eql rfl rfl) ?_
  refine tk (i := 9) (listed' := lk 109 10) rfl (by as_aux_lemma => kernel_rfl) (by kernel_rfl) H (fun w' H => r_mv (v := .bool _) rfl) ?_
  first | refine spaL (t := 18) (b := true) rfl ?_ | refine spaT (t := 18) rfl (by first | rfl | simp) ?_   -- guard 1
  refine tkg (i := 10) (listed' := lk 109 11) rfl (by as_aux_lemma => kernel_rfl) (by kernel_rfl) H rfl (fun w' H => r_mv (v := .pointer _) rfl) ?_
  first | refine tkg (i := 11) (listed' := lk 109 12) rfl (by as_aux_lemma => kernel_rfl) (by kernel_rfl) H rfl (fun w' H => r_nc rfl) ?_ | refine tkg (i := 11) (listed' := lk 109 12) rfl (by as_aux_lemma => kernel_rfl) (by kernel_rfl) H rfl (fun w' H => r_nci rfl) ?_
  refine tkg (i := 12) (listed' := lk 109 13) rfl (by as_aux_lemma => kernel_rfl) (by kernel_rfl) H rfl (fun w' H => r_fa rfl fo99_2) ?_
  first | refine tkg (i := 13) (listed' := lk 109 14) rfl (by as_aux_lemma => kernel_rfl) (by kernel_rfl) H rfl (fun w' H => r_ld H rfl sc3 rfl) ?_ | refine tkg (i := 13) (listed' := lk 109 14) rfl (by as_aux_lemma => kernel_rfl) (by kernel_rfl) H rfl (fun w' H => r_lc rfl (by first | assumption | exact H.fr.cell (by assumption) (by simp)) sc3) ?_ | refine tkg (i := 13) (listed' := lk 109 14) rfl (by as_aux_lemma => kernel_rfl) (by kernel_rfl) H rfl (fun w' H => r_ld H rfl sc3 (by assumption)) ?_
  refine tkg (i := 14) (listed' := lk 109 15) rfl (by as_aux_lemma => kernel_rfl) (by kernel_rfl) H rfl (fun w' H => r_mv (v := .pointer _) rfl) ?_
  first | refine tkg (i := 15) (listed' := lk 109 16) rfl (by as_aux_lemma => kernel_rfl) (by kernel_rfl) H rfl (fun w' H => r_nc rfl) ?_ | refine tkg (i := 15) (listed' := lk 109 16) rfl (by as_aux_lemma => kernel_rfl) (by kernel_rfl) H rfl (fun w' H => r_nci rfl) ?_
  refine tkg (i := 16) (listed' := lk 109 17) rfl (by as_aux_lemma => kernel_rfl) (by kernel_rfl) H rfl (fun w' H => r_fa rfl fo99_2) ?_
  first | refine tkg (i := 17) (listed' := lk 109 18) rfl (by as_aux_lemma => kernel_rfl) (by kernel_rfl) H rfl (fun w' H => r_ld H rfl sc3 rfl) ?_ | refine tkg (i := 17) (listed' := lk 109 18) rfl (by as_aux_lemma => kernel_rfl) (by kernel_rfl) H rfl (fun w' H => r_lc rfl (by first | assumption | exact H.fr.cell (by assumption) (by simp)) sc3) ?_ | refine tkg (i := 17) (listed' := lk 109 18) rfl (by as_aux_lemma => kernel_rfl) (by kernel_rfl) H rfl (fun w' H => r_ld H rfl sc3 (by assumption)) ?_
  refine tkg (i := 18) (listed' := lk 109 19) rfl (by as_aux_lemma => kernel_rfl) (by kernel_rfl) H rfl (fun w' H => r_eql rfl rfl) ?_
  refine tk (i := 19) (listed' := lk 109 20) rfl (by as_aux_lemma => kernel_rfl) (by kernel_rfl) H (fun w' H => r_pkT (v := .bool _) rfl rfl) ?_
  refine tk (i := 20) (listed' := lk 109 21) rfl (by as_aux_lemma => kernel_rfl) (by kernel_rfl) H (fun w' H => r_mv (v := .bool _) rfl) ?_
  first | refine spaL (t := 29) (b := true) rfl ?_ | refine spaT (t := 29) rfl (by first | rfl | simp) ?_   -- guard 2
  refine tkg (i := 21) (listed' := lk 109 22) rfl (by as_aux_lemma => kernel_rfl) (by kernel_rfl) H rfl (fun w' H => r_mv (v := .pointer _) rfl) ?_
  first | refine tkg (i := 22) (listed' := lk 109 23) rfl (by as_aux_lemma => kernel_rfl) (by kernel_rfl) H rfl (fun w' H => r_nc rfl) ?_ | refine tkg (i := 22) (listed' := lk 109 23) rfl (by as_aux_lemma => kernel_rfl) (by kernel_rfl) H rfl (fun w' H => r_nci rfl) ?_
  refine tkg (i := 23) (listed' := lk 109 24) rfl (by as_aux_lemma => kernel_rfl) (by kernel_rfl) H rfl (fun w' H => r_fa rfl fo99_7) ?_
  first | refine tkg (i := 24) (listed' := lk 109 25) rfl (by as_aux_lemma => kernel_rfl) (by kernel_rfl) H rfl (fun w' H => r_ld H rfl sc53 rfl) ?_ | refine tkg (i := 24) (listed' := lk 109 25) rfl (by as_aux_lemma => kernel_rfl) (by kernel_rfl) H rfl (fun w' H => r_lc rfl (by first | assumption | exact H.fr.cell (by assumption) (by simp)) sc53) ?_ | refine tkg (i := 24) (listed' := lk 109 25) rfl (by as_aux_lemma => kernel_rfl) (by kernel_rfl) H rfl (fun w' H => r_ld H rfl sc53 (by assumption)) ?_
  refine tkg (i := 25) (listed' := lk 109 26) rfl (by as_aux_lemma => kernel_rfl) (by kernel_rfl) H rfl (fun w' H => r_mv (v := .pointer _) rfl) ?_
  first | refine tkg (i := 26) (listed' := lk 109 27) rfl (by as_aux_lemma => kernel_rfl) (by kernel_rfl) H rfl (fun w' H => r_nc rfl) ?_ | refine tkg (i := 26) (listed' := lk 109 27) rfl (by as_aux_lemma => kernel_rfl) (by kernel_rfl) H rfl (fun w' H => r_nci rfl) ?_
  refine tkg (i := 27) (listed' := lk 109 28) rfl (by as_aux_lemma => kernel_rfl) (by kernel_rfl) H rfl (fun w' H => r_fa rfl fo99_7) ?_
  first | refine tkg (i := 28) (listed' := lk 109 29) rfl (by as_aux_lemma => kernel_rfl) (by kernel_rfl) H rfl (fun w' H => r_ld H rfl sc53 rfl) ?_ | refine tkg (i := 28) (listed' := lk 109 29) rfl (by as_aux_lemma => kernel_rfl) (by kernel_rfl) H rfl (fun w' H => r_lc rfl (by first | assumption | exact H.fr.cell (by assumption) (by simp)) sc53) ?_ | refine tkg (i := 28) (listed' := lk 109 29) rfl (by as_aux_lemma => kernel_rfl) (by kernel_rfl) H rfl (fun w' H => r_ld H rfl sc53 (by assumption)) ?_
  refine tkg (i := 29) (listed' := lk 109 30) rfl (by as_aux_lemma => kernel_rfl) (by kernel_rfl) H rfl (fun w' H => r_eql rfl rfl) ?_
  refine tk (i := 30) (listed' := lk 109 31) rfl (by as_aux_lemma => kernel_rfl) (by kernel_rfl) H (fun w' H => r_pkT (v := .bool _) rfl rfl) ?_
  refine tk (i := 31) (listed' := lk 109 32) rfl (by as_aux_lemma => kernel_rfl) (by kernel_rfl) H (fun w' H => r_mv (v := .bool _) rfl) ?_
  first | refine spaL (t := 40) (b := true) rfl ?_ | refine spaT (t := 40) rfl (by first | rfl | simp) ?_   -- guard 3
  refine tkg (i := 32) (listed' := lk 109 33) rfl (by as_aux_lemma => kernel_rfl) (by kernel_rfl) H rfl (fun w' H => r_mv (v := .pointer _) rfl) ?_
  first | refine tkg (i := 33) (listed' := lk 109 34) rfl (by as_aux_lemma => kernel_rfl) (by kernel_rfl) H rfl (fun w' H => r_nc rfl) ?_ | refine tkg (i := 33) (listed' := lk 109 34) rfl (by as_aux_lemma => kernel_rfl) (by kernel_rfl) H rfl (fun w' H => r_nci rfl) ?_
  refine tkg (i := 34) (listed' := lk 109 35) rfl (by as_aux_lemma => kernel_rfl) (by kernel_rfl) H rfl (fun w' H => r_fa rfl fo99_10) ?_
  first | refine tkg (i := 35) (listed' := lk 109 36) rfl (by as_aux_lemma => kernel_rfl) (by kernel_rfl) H rfl (fun w' H => r_ld H rfl sc28 rfl) ?_ | refine tkg (i := 35) (listed' := lk 109 36) rfl (by as_aux_lemma => kernel_rfl) (by kernel_rfl) H rfl (fun w' H => r_lc rfl (by first | assumption | exact H.fr.cell (by assumption) (by simp)) sc28) ?_ | refine tkg (i := 35) (listed' := lk 109 36) rfl (by as_aux_lemma => kernel_rfl) (by kernel_rfl) H rfl (fun w' H => r_ld H rfl sc28 (by assumption)) ?_
  refine tkg (i := 36) (listed' := lk 109 37) rfl (by as_aux_lemma => kernel_rfl) (by kernel_rfl) H rfl (fun w' H => r_mv (v := .pointer _) rfl) ?_
  first | refine tkg (i := 37) (listed' := lk 109 38) rfl (by as_aux_lemma => kernel_rfl) (by kernel_rfl) H rfl (fun w' H => r_nc rfl) ?_ | refine tkg (i := 37) (listed' := lk 109 38) rfl (by as_aux_lemma => kernel_rfl) (by kernel_rfl) H rfl (fun w' H => r_nci rfl) ?_
  refine tkg (i := 38) (listed' := lk 109 39) rfl (by as_aux_lemma => kernel_rfl) (by kernel_rfl) H rfl (fun w' H => r_fa rfl fo99_10) ?_
  first | refine tkg (i := 39) (listed' := lk 109 40) rfl (by as_aux_lemma => kernel_rfl) (by kernel_rfl) H rfl (fun w' H => r_ld H rfl sc28 rfl) ?_ | refine tkg (i := 39) (listed' := lk 109 40) rfl (by as_aux_lemma => kernel_rfl) (by kernel_rfl) H rfl (fun w' H => r_lc rfl (by first | assumption | exact H.fr.cell (by assumption) (by simp)) sc28) ?_ | refine tkg (i := 39) (listed' := lk 109 40) rfl (by as_aux_lemma => kernel_rfl) (by kernel_rfl) H rfl (fun w' H => r_ld H rfl sc28 (by assumption)) ?_
  refine tkg (i := 40) (listed' := lk 109 41) rfl (by as_aux_lemma => kernel_rfl) (by kernel_rfl) H rfl (fun w' H => r_eql rfl rfl) ?_
  refine tk (i := 41) (listed' := lk 109 42) rfl (by as_aux_lemma => kernel_rfl) (by kernel_rfl) H (fun w' H => r_pkT (v := .bool _) rfl rfl) ?_
  refine tk (i := 42) (listed' := lk 109 43) rfl (by as_aux_lemma => kernel_rfl) (by kernel_rfl) H (fun w' H => r_mv (v := .bool _) rfl) ?_
  first | refine spaL (t := 51) (b := true) rfl ?_ | refine spaT (t := 51) rfl (by first | rfl | simp) ?_   -- guard 4
  refine tkg (i := 43) (listed' := lk 109 44) rfl (by as_aux_lemma => kernel_rfl) (by kernel_rfl) H rfl (fun w' H => r_mv (v := .pointer _) rfl) ?_
  first | refine tkg (i := 44) (listed' := lk 109 45) rfl (by as_aux_lemma => kernel_rfl) (by kernel_rfl) H rfl (fun w' H => r_nc rfl) ?_ | refine tkg (i := 44) (listed' := lk 109 45) rfl (by as_aux_lemma => kernel_rfl) (by kernel_rfl) H rfl (fun w' H => r_nci rfl) ?_
  refine tkg (i := 45) (listed' := lk 109 46) rfl (by as_aux_lemma => kernel_rfl) (by kernel_rfl) H rfl (fun w' H => r_fa rfl fo99_11) ?_
  first | refine tkg (i := 46) (listed' := lk 109 47) rfl (by as_aux_lemma => kernel_rfl) (by kernel_rfl) H rfl (fun w' H => r_ld H rfl sc28 rfl) ?_ | refine tkg (i := 46) (listed' := lk 109 47) rfl (by as_aux_lemma => kernel_rfl) (by kernel_rfl) H rfl (fun w' H => r_lc rfl (by first | assumption | exact H.fr.cell (by assumption) (by simp)) sc28) ?_ | refine tkg (i := 46) (listed' := lk 109 47) rfl (by as_aux_lemma => kernel_rfl) (by kernel_rfl) H rfl (fun w' H => r_ld H rfl sc28 (by assumption)) ?_
  refine tkg (i := 47) (listed' := lk 109 48) rfl (by as_aux_lemma => kernel_rfl) (by kernel_rfl) H rfl (fun w' H => r_mv (v := .pointer _) rfl) ?_
  first | refine tkg (i := 48) (listed' := lk 109 49) rfl (by as_aux_lemma => kernel_rfl) (by kernel_rfl) H rfl (fun w' H => r_nc rfl) ?_ | refine tkg (i := 48) (listed' := lk 109 49) rfl (by as_aux_lemma => kernel_rfl) (by kernel_rfl) H rfl (fun w' H => r_nci rfl) ?_
  refine tkg (i := 49) (listed' := lk 109 50) rfl (by as_aux_lemma => kernel_rfl) (by kernel_rfl) H rfl (fun w' H => r_fa rfl fo99_11) ?_
  first | refine tkg (i := 50) (listed' := lk 109 51) rfl (by as_aux_lemma => kernel_rfl) (by kernel_rfl) H rfl (fun w' H => r_ld H rfl sc28 rfl) ?_ | refine tkg (i := 50) (listed' := lk 109 51) rfl (by as_aux_lemma => kernel_rfl) (by kernel_rfl) H rfl (fun w' H => r_lc rfl (by first | assumption | exact H.fr.cell (by assumption) (by simp)) sc28) ?_ | refine tkg (i := 50) (listed' := lk 109 51) rfl (by as_aux_lemma => kernel_rfl) (by kernel_rfl) H rfl (fun w' H => r_ld H rfl sc28 (by assumption)) ?_
  refine tkg (i := 51) (listed' := lk 109 52) rfl (by as_aux_lemma => kernel_rfl) (by kernel_rfl) H rfl (fun w' H => r_eql rfl rfl) ?_
  refine tk (i := 52) (listed' := lk 109 53) rfl (by as_aux_lemma => kernel_rfl) (by kernel_rfl) H (fun w' H => r_pkT (v := .bool _) rfl rfl) ?_
  refine tk (i := 53) (listed' := lk 109 54) rfl (by as_aux_lemma => kernel_rfl) (by kernel_rfl) H (fun w' H => r_mv (v := .bool _) rfl) ?_
  first | refine spaL (t := 62) (b := true) rfl ?_ | refine spaT (t := 62) rfl (by first | rfl | simp) ?_   -- guard 5
  refine tkg (i := 54) (listed' := lk 109 55) rfl (by as_aux_lemma => kernel_rfl) (by kernel_rfl) H rfl (fun w' H => r_mv (v := .pointer _) rfl) ?_
  first | refine tkg (i := 55) (listed' := lk 109 56) rfl (by as_aux_lemma => kernel_rfl) (by kernel_rfl) H rfl (fun w' H => r_nc rfl) ?_ | refine tkg (i := 55) (listed' := lk 109 56) rfl (by as_aux_lemma => kernel_rfl) (by kernel_rfl) H rfl (fun w' H => r_nci rfl) ?_
  refine tkg (i := 56) (listed' := lk 109 57) rfl (by as_aux_lemma => kernel_rfl) (by kernel_rfl) H rfl (fun w' H => r_fa rfl fo99_12) ?_
  first | refine tkg (i := 57) (listed' := lk 109 58) rfl (by as_aux_lemma => kernel_rfl) (by kernel_rfl) H rfl (fun w' H => r_ld H rfl sc28 rfl) ?_ | refine tkg (i := 57) (listed' := lk 109 58) rfl (by as_aux_lemma => kernel_rfl) (by kernel_rfl) H rfl (fun w' H => r_lc rfl (by first | assumption | exact H.fr.cell (by assumption) (by simp)) sc28) ?_ | refine tkg (i := 57) (listed' := lk 109 58) rfl (by as_aux_lemma => kernel_rfl) (by kernel_rfl) H rfl (fun w' H => r_ld H rfl sc28 (by assumption)) ?_
  refine tkg (i := 58) (listed' := lk 109 59) rfl (by as_aux_lemma => kernel_rfl) (by kernel_rfl) H rfl (fun w' H => r_mv (v := .pointer _) rfl) ?_
  first | refine tkg (i := 59) (listed' := lk 109 60) rfl (by as_aux_lemma => kernel_rfl) (by kernel_rfl) H rfl (fun w' H => r_nc rfl) ?_ | refine tkg (i := 59) (listed' := lk 109 60) rfl (by as_aux_lemma => kernel_rfl) (by kernel_rfl) H rfl (fun w' H => r_nci rfl) ?_
  refine tkg (i := 60) (listed' := lk 109 61) rfl (by as_aux_lemma => kernel_rfl) (by kernel_rfl) H rfl (fun w' H => r_fa rfl fo99_12) ?_
  first | refine tkg (i := 61) (listed' := lk 109 62) rfl (by as_aux_lemma => kernel_rfl) (by kernel_rfl) H rfl (fun w' H => r_ld H rfl sc28 rfl) ?_ | refine tkg (i := 61) (listed' := lk 109 62) rfl (by as_aux_lemma => kernel_rfl) (by kernel_rfl) H rfl (fun w' H => r_lc rfl (by first | assumption | exact H.fr.cell (by assumption) (by simp)) sc28) ?_ | refine tkg (i := 61) (listed' := lk 109 62) rfl (by as_aux_lemma => kernel_rfl) (by kernel_rfl) H rfl (fun w' H => r_ld H rfl sc28 (by assumption)) ?_
  refine tkg (i := 62) (listed' := lk 109 63) rfl (by as_aux_lemma => kernel_rfl) (by kernel_rfl) H rfl (fun w' H => r_eql rfl rfl) ?_
  refine tk (i := 63) (listed' := lk 109 64) rfl (by as_aux_lemma => kernel_rfl) (by kernel_rfl) H (fun w' H => r_pkT (v := .bool _) rfl rfl) ?_
  refine tk (i := 64) (listed' := lk 109 65) rfl (by as_aux_lemma => kernel_rfl) (by kernel_rfl) H (fun w' H => r_mv (v := .bool _) rfl) ?_
  first | refine spaL (t := 73) (b := true) rfl ?_ | refine spaT (t := 73) rfl (by first | rfl | simp) ?_   -- guard 6
  refine tkg (i := 65) (listed' := lk 109 66) rfl (by as_aux_lemma => kernel_rfl) (by kernel_rfl) H rfl (fun w' H => r_mv (v := .pointer _) rfl) ?_
  first | refine tkg (i := 66) (listed' := lk 109 67) rfl (by as_aux_lemma => kernel_rfl) (by kernel_rfl) H rfl (fun w' H => r_nc rfl) ?_ | refine tkg (i := 66) (listed' := lk 109 67) rfl (by as_aux_lemma => kernel_rfl) (by kernel_rfl) H rfl (fun w' H => r_nci rfl) ?_
  refine tkg (i := 67) (listed' := lk 109 68) rfl (by as_aux_lemma => kernel_rfl) (by kernel_rfl) H rfl (fun w' H => r_fa rfl fo99_13) ?_
  first | refine tkg (i := 68) (listed' := lk 109 69) rfl (by as_aux_lemma => kernel_rfl) (by kernel_rfl) H rfl (fun w' H => r_ld H rfl sc28 rfl) ?_ | refine tkg (i := 68) (listed' := lk 109 69) rfl (by as_aux_lemma => kernel_rfl) (by kernel_rfl) H rfl (fun w' H => r_lc rfl (by first | assumption | exact H.fr.cell (by assumption) (by simp)) sc28) ?_ | refine tkg (i := 68) (listed' := lk 109 69) rfl (by as_aux_lemma => kernel_rfl) (by kernel_rfl) H rfl (fun w' H => r_ld H rfl sc28 (by assumption)) ?_
  refine tkg (i := 69) (listed' := lk 109 70) rfl (by as_aux_lemma => kernel_rfl) (by kernel_rfl) H rfl (fun w' H => r_mv (v := .pointer _) rfl) ?_
  first | refine tkg (i := 70) (listed' := lk 109 71) rfl (by as_aux_lemma => kernel_rfl) (by kernel_rfl) H rfl (fun w' H => r_nc rfl) ?_ | refine tkg (i := 70) (listed' := lk 109 71) rfl (by as_aux_lemma => kernel_rfl) (by kernel_rfl) H rfl (fun w' H => r_nci rfl) ?_
  refine tkg (i := 71) (listed' := lk 109 72) rfl (by as_aux_lemma => kernel_rfl) (by kernel_rfl) H rfl (fun w' H => r_fa rfl fo99_13) ?_
  first | refine tkg (i := 72) (listed' := lk 109 73) rfl (by as_aux_lemma => kernel_rfl) (by kernel_rfl) H rfl (fun w' H => r_ld H rfl sc28 rfl) ?_ | refine tkg (i := 72) (listed' := lk 109 73) rfl (by as_aux_lemma => kernel_rfl) (by kernel_rfl) H rfl (fun w' H => r_lc rfl (by first | assumption | exact H.fr.cell (by assumption) (by simp)) sc28) ?_ | refine tkg (i := 72) (listed' := lk 109 73) rfl (by as_aux_lemma => kernel_rfl) (by kernel_rfl) H rfl (fun w' H => r_ld H rfl sc28 (by assumption)) ?_
  refine tkg (i := 73) (listed' := lk 109 74) rfl (by as_aux_lemma => kernel_rfl) (by kernel_rfl) H rfl (fun w' H => r_eql rfl rfl) ?_
  refine tk (i := 74) (listed' := lk 109 75) rfl (by as_aux_lemma => kernel_rfl) (by kernel_rfl) H (fun w' H => r_pkT (v := .bool _) rfl rfl) ?_
  refine tk (i := 75) (listed' := lk 109 76) rfl (by as_aux_lemma => kernel_rfl) (by kernel_rfl) H (fun w' H => r_mv (v := .bool _) rfl) ?_
  first | refine spaL (t := 84) (b := true) rfl ?_ | refine spaT (t := 84) rfl (by first | rfl | simp) ?_   -- guard 7
  refine tkg (i := 76) (listed' := lk 109 77) rfl (by as_aux_lemma => kernel_rfl) (by kernel_rfl) H rfl (fun w' H => r_mv (v := .pointer _) rfl) ?_
  first | refine tkg (i := 77) (listed' := lk 109 78) rfl (by as_aux_lemma => kernel_rfl) (by kernel_rfl) H rfl (fun w' H => r_nc rfl) ?_ | refine tkg (i := 77) (listed' := lk 109 78) rfl (by as_aux_lemma => kernel_rfl) (by kernel_rfl) H rfl (fun w' H => r_nci rfl) ?_
  refine tkg (i := 78) (listed' := lk 109 79) rfl (by as_aux_lemma => kernel_rfl) (by kernel_rfl) H rfl (fun w' H => r_fa rfl fo99_6) ?_
  first | refine tkg (i := 79) (listed' := lk 109 80) rfl (by as_aux_lemma => kernel_rfl) (by kernel_rfl) H rfl (fun w' H => r_ld H rfl sc3 rfl) ?_ | refine tkg (i := 79) (listed' := lk 109 80) rfl (by as_aux_lemma => kernel_rfl) (by kernel_rfl) H rfl (fun w' H => r_lc rfl (by first | assumption | exact H.fr.cell (by assumption) (by simp)) sc3) ?_ | refine tkg (i := 79) (listed' := lk 109 80) rfl (by as_aux_lemma => kernel_rfl) (by kernel_rfl) H rfl (fun w' H => r_ld H rfl sc3 (by assumption)) ?_
  refine tkg (i := 80) (listed' := lk 109 81) rfl (by as_aux_lemma => kernel_rfl) (by kernel_rfl) H rfl (fun w' H => r_mv (v := .pointer _) rfl) ?_
  first | refine tkg (i := 81) (listed' := lk 109 82) rfl (by as_aux_lemma => kernel_rfl) (by kernel_rfl) H rfl (fun w' H => r_nc rfl) ?_ | refine tkg (i := 81) (listed' := lk 109 82) rfl (by as_aux_lemma => kernel_rfl) (by kernel_rfl) H rfl (fun w' H => r_nci rfl) ?_
  refine tkg (i := 82) (listed' := lk 109 83) rfl (by as_aux_lemma => kernel_rfl) (by kernel_rfl) H rfl (fun w' H => r_fa rfl fo99_6) ?_
  first | refine tkg (i := 83) (listed' := lk 109 84) rfl (by as_aux_lemma => kernel_rfl) (by kernel_rfl) H rfl (fun w' H => r_ld H rfl sc3 rfl) ?_ | refine tkg (i := 83) (listed' := lk 109 84) rfl (by as_aux_lemma => kernel_rfl) (by kernel_rfl) H rfl (fun w' H => r_lc rfl (by first | assumption | exact H.fr.cell (by assumption) (by simp)) sc3) ?_ | refine tkg (i := 83) (listed' := lk 109 84) rfl (by as_aux_lemma => kernel_rfl) (by kernel_rfl) H rfl (fun w' H => r_ld H rfl sc3 (by assumption)) ?_
  refine tkg (i := 84) (listed' := lk 109 85) rfl (by as_aux_lemma => kernel_rfl) (by kernel_rfl) H rfl (fun w' H => r_eql rfl rfl) ?_
  refine tk (i := 85) (listed' := lk 109 86) rfl (by as_aux_lemma => kernel_rfl) (by kernel_rfl) H (fun w' H => r_pkT (v := .bool _) rfl rfl) ?_
  refine tk (i := 86) (listed' := lk 109 87) rfl (by as_aux_lemma => kernel_rfl) (by kernel_rfl) H (fun w' H => r_mv (v := .bool _) rfl) ?_
  first | refine spaL (t := 95) (b := true) rfl ?_ | refine spaT (t := 95) rfl (by first | rfl | simp) ?_   -- guard 8
  refine tkg (i := 87) (listed' := lk 109 88) rfl (by as_aux_lemma => kernel_rfl) (by kernel_rfl) H rfl (fun w' H => r_mv (v := .pointer _) rfl) ?_
  first | refine tkg (i := 88) (listed' := lk 109 89) rfl (by as_aux_lemma => kernel_rfl) (by kernel_rfl) H rfl (fun w' H => r_nc rfl) ?_ | refine tkg (i := 88) (listed' := lk 109 89) rfl (by as_aux_lemma => kernel_rfl) (by kernel_rfl) H rfl (fun w' H => r_nci rfl) ?_
  refine tkg (i := 89) (listed' := lk 109 90) rfl (by as_aux_lemma => kernel_rfl) (by kernel_rfl) H rfl (fun w' H => r_fa rfl fo99_4) ?_
  first | refine tkg (i := 90) (listed' := lk 109 91) rfl (by as_aux_lemma => kernel_rfl) (by kernel_rfl) H rfl (fun w' H => r_ld H rfl sc4 rfl) ?_ | refine tkg (i := 90) (listed' := lk 109 91) rfl (by as_aux_lemma => kernel_rfl) (by kernel_rfl) H rfl (fun w' H => r_lc rfl (by first | assumption | exact H.fr.cell (by assumption) (by simp)) sc4) ?_ | refine tkg (i := 90) (listed' := lk 109 91) rfl (by as_aux_lemma => kernel_rfl) (by kernel_rfl) H rfl (fun w' H => r_ld H rfl sc4 (by assumption)) ?_
  refine tkg (i := 91) (listed' := lk 109 92) rfl (by as_aux_lemma => kernel_rfl) (by kernel_rfl) H rfl (fun w' H => r_mv (v := .pointer _) rfl) ?_
  first | refine tkg (i := 92) (listed' := lk 109 93) rfl (by as_aux_lemma => kernel_rfl) (by kernel_rfl) H rfl (fun w' H => r_nc rfl) ?_ | refine tkg (i := 92) (listed' := lk 109 93) rfl (by as_aux_lemma => kernel_rfl) (by kernel_rfl) H rfl (fun w' H => r_nci rfl) ?_
  refine tkg (i := 93) (listed' := lk 109 94) rfl (by as_aux_lemma => kernel_rfl) (by kernel_rfl) H rfl (fun w' H => r_fa rfl fo99_4) ?_
  first | refine tkg (i := 94) (listed' := lk 109 95) rfl (by as_aux_lemma => kernel_rfl) (by kernel_rfl) H rfl (fun w' H => r_ld H rfl sc4 rfl) ?_ | refine tkg (i := 94) (listed' := lk 109 95) rfl (by as_aux_lemma => kernel_rfl) (by kernel_rfl) H rfl (fun w' H => r_lc rfl (by first | assumption | exact H.fr.cell (by assumption) (by simp)) sc4) ?_ | refine tkg (i := 94) (listed' := lk 109 95) rfl (by as_aux_lemma => kernel_rfl) (by kernel_rfl) H rfl (fun w' H => r_ld H rfl sc4 (by assumption)) ?_
  refine tkg (i := 95) (listed' := lk 109 96) rfl (by as_aux_lemma => kernel_rfl) (by kernel_rfl) H rfl (fun w' H => r_eqlB rfl rfl Tryd.underlying4) ?_
  refine tk (i := 96) (listed' := lk 109 97) rfl (by as_aux_lemma => kernel_rfl) (by kernel_rfl) H (fun w' H => r_pkT (v := .bool _) rfl rfl) ?_
  refine tk (i := 97) (listed' := lk 109 98) rfl (by as_aux_lemma => kernel_rfl) (by kernel_rfl) H (fun w' H => r_mv (v := .bool _) rfl) ?_
  first | refine spaL (t := 106) (b := true) rfl ?_ | refine spaT (t := 106) rfl (by first | rfl | simp) ?_   -- guard 9
  refine tkg (i := 98) (listed' := lk 109 99) rfl (by as_aux_lemma => kernel_rfl) (by kernel_rfl) H rfl (fun w' H => r_mv (v := .pointer _) rfl) ?_
  first | refine tkg (i := 99) (listed' := lk 109 100) rfl (by as_aux_lemma => kernel_rfl) (by kernel_rfl) H rfl (fun w' H => r_nc rfl) ?_ | refine tkg (i := 99) (listed' := lk 109 100) rfl (by as_aux_lemma => kernel_rfl) (by kernel_rfl) H rfl (fun w' H => r_nci rfl) ?_
  refine tkg (i := 100) (listed' := lk 109 101) rfl (by as_aux_lemma => kernel_rfl) (by kernel_rfl) H rfl (fun w' H => r_fa rfl fo99_3) ?_
  first | refine tkg (i := 101) (listed' := lk 109 102) rfl (by as_aux_lemma => kernel_rfl) (by kernel_rfl) H rfl (fun w' H => r_ld H rfl sc9 rfl) ?_ | refine tkg (i := 101) (listed' := lk 109 102) rfl (by as_aux_lemma => kernel_rfl) (by kernel_rfl) H rfl (fun w' H => r_lc rfl (by first | assumption | exact H.fr.cell (by assumption) (by simp)) sc9) ?_ | refine tkg (i := 101) (listed' := lk 109 102) rfl (by as_aux_lemma => kernel_rfl) (by kernel_rfl) H rfl (fun w' H => r_ld H rfl sc9 (by assumption)) ?_
  refine tkg (i := 102) (listed' := lk 109 103) rfl (by as_aux_lemma => kernel_rfl) (by kernel_rfl) H rfl (fun w' H => r_mv (v := .pointer _) rfl) ?_
  first | refine tkg (i := 103) (listed' := lk 109 104) rfl (by as_aux_lemma => kernel_rfl) (by kernel_rfl) H rfl (fun w' H => r_nc rfl) ?_ | refine tkg (i := 103) (listed' := lk 109 104) rfl (by as_aux_lemma => kernel_rfl) (by kernel_rfl) H rfl (fun w' H => r_nci rfl) ?_
  refine tkg (i := 104) (listed' := lk 109 105) rfl (by as_aux_lemma => kernel_rfl) (by kernel_rfl) H rfl (fun w' H => r_fa rfl fo99_3) ?_
  first | refine tkg (i := 105) (listed' := lk 109 106) rfl (by as_aux_lemma => kernel_rfl) (by kernel_rfl) H rfl (fun w' H => r_ld H rfl sc9 rfl) ?_ | refine tkg (i := 105) (listed' := lk 109 106) rfl (by as_aux_lemma => kernel_rfl) (by kernel_rfl) H rfl (fun w' H => r_lc rfl (by first | assumption | exact H.fr.cell (by assumption) (by simp)) sc9) ?_ | refine tkg (i := 105) (listed' := lk 109 106) rfl (by as_aux_lemma => kernel_rfl) (by kernel_rfl) H rfl (fun w' H => r_ld H rfl sc9 (by assumption)) ?_
  refine tkg (i := 106) (listed' := lk 109 107) rfl (by as_aux_lemma => kernel_rfl) (by kernel_rfl) H rfl (fun w' H => r_eqlT rfl rfl) ?_
  refine tk (i := 107) (listed' := lk 109 108) rfl (by as_aux_lemma => kernel_rfl) (by kernel_rfl) H (fun w' H => r_pkT (v := .bool _) rfl rfl) ?_
  refine tk (i := 108) (listed' := lk 109 109) rfl (by as_aux_lemma => kernel_rfl) (by kernel_rfl) H (fun w' H => r_asg (v := .bool _) rfl) ?_
  refine da (by kernel_rfl) ?_
  refine then_n ?_
  refine sq ?_
  refine dr (by kernel_rfl) ?_   -- region 4
  have H := H.drew
  refine hold (fun _ => True) [] ?_
  refine tk (i := 0) rfl (by kernel_rfl) rfl trivial (fun _ _ => r_mv (v := .pointer _) rfl) ?_
  first | refine tk (i := 1) rfl (by kernel_rfl) rfl trivial (fun _ _ => r_nc rfl) ?_ | refine tk (i := 1) rfl (by kernel_rfl) rfl trivial (fun _ _ => r_nci rfl) ?_
  refine tk (i := 2) rfl (by kernel_rfl) rfl trivial (fun _ _ => r_fa rfl fo99_0) ?_
  refine tk (i := 4) rfl (by kernel_rfl) rfl trivial (fun _ _ => r_mv (v := .pointer _) rfl) ?_
  first | refine tk (i := 5) rfl (by kernel_rfl) rfl trivial (fun _ _ => r_nc rfl) ?_ | refine tk (i := 5) rfl (by kernel_rfl) rfl trivial (fun _ _ => r_nci rfl) ?_
  refine tk (i := 6) rfl (by kernel_rfl) rfl trivial (fun _ _ => r_fa rfl fo99_0) ?_
  refine unfree ?_
  refine holdH H [] ?_
  first | refine tk (i := 3) rfl (by kernel_rfl) rfl H (fun w' H => r_ld H rfl sc97 rfl) ?_ | refine tk (i := 3) rfl (by kernel_rfl) rfl H (fun w' H => r_lc rfl (by first | assumption | exact H.fr.cell (by assumption) (by simp)) sc97) ?_ | refine tk (i := 3) rfl (by kernel_rfl) rfl H (fun w' H => r_ld H rfl sc97 (by assumption)) ?_
  first | refine tk (i := 7) rfl (by kernel_rfl) rfl H (fun w' H => r_ld H rfl sc97 rfl) ?_ | refine tk (i := 7) rfl (by kernel_rfl) rfl H (fun w' H => r_lc rfl (by first | assumption | exact H.fr.cell (by assumption) (by simp)) sc97) ?_ | refine tk (i := 7) rfl (by kernel_rfl) rfl H (fun w' H => r_ld H rfl sc97 (by assumption)) ?_
  refine fk (i := 8) (by kernel_rfl) rfl rfl rfl ?_
  refine cl ca48 (c_cmp _ D1 D2 m1 c1 m2 c2 l1 l2 ps qs (h1.keep H.fr) (h2.keep H.fr) hz hm) rfl ?_
  rintro _ w1 ⟨rfl, F⟩
  replace H := H.keep F; clear F
  refine nl ?_
  refine then_n ?_
  refine ⟨H, ?_⟩
  refine tk (i := 9) rfl (by kernel_rfl) rfl H (fun w' H => r_asg (v := .bool _) rfl) ?_
  refine da (by kernel_rfl) ?_
  refine then_n ?_
  refine sq ?_
  refine rg ?_
  refine mv (v := .bool _) rfl rfl ?_
  refine mv (v := .bool _) rfl rfl ?_
  first | refine spL (t := 127) (b := true) rfl ?_ | refine spT (t := 127) rfl (by first | rfl | simp) ?_   -- guard 10
  refine gy rfl ?_
  refine mv (v := .bool _) rfl rfl ?_
  refine pkT (v := .bool _) rfl rfl rfl ?_
  refine asg (v := .bool _) rfl rfl ?_
  refine nl ?_
  refine then_n ?_
  refine rt ?_
  refine fin_r ?_
  exact ⟨rfl, H.fr⟩
end Go.Proofs.YthcaejaaalkglaaDoor.X
/- Partitions with their identifiers in capitals; their rows, element by element. -/
namespace Go.Proofs.YthcaejaaalkglaaDoor.X
set_option linter.unusedVariables false
open Go Go.RowKit
def capT (p : GP) : GP := { p with ty := gT (gB p.ty) }
def capG (p : GP) : GP := { p with ty := gT (gB p.ty), gu := gT (gB p.gu) }
def capI (ps : List GP) (i : Nat) : List GP := (ps.take i).map capG ++ ps.drop i
theorem capI_len (ps : List GP) (i : Nat) : (capI ps i).length = ps.length := by simp [capI]; omega
theorem capI_zero (ps : List GP) : capI ps 0 = ps := by simp [capI]
theorem capI_all {ps : List GP} {i : Nat} (h : ps.length ≤ i) : capI ps i = ps.map capG := by
 unfold capI; rw [List.take_of_length_le h, List.drop_of_length_le h, List.append_nil]
theorem capI_get {ps : List GP} {i : Nat} {p : GP} (h : ps[i]? = some p) : (capI ps i)[i]? = some p := by
 have hi := (List.getElem?_eq_some_iff.1 h).1
 unfold capI
 rw [List.getElem?_append_right (by simp; omega), List.getElem?_drop]
 have : i + (i - ((ps.take i).map capG).length) = i := by simp; omega
 rw [this]; exact h
theorem capI_next {ps : List GP} {i : Nat} {p : GP} (h : ps[i]? = some p) : (capI ps i).set i (capG p) = capI ps (i + 1) := by
 have hi := (List.getElem?_eq_some_iff.1 h).1
 unfold capI
 have hl : ((ps.take i).map capG).length = i := by simp; omega
 rw [List.set_append_right _ _ (by omega), hl, Nat.sub_self, take_succ_get h, List.map_append]
 have hd : ps.drop i = p :: ps.drop (i + 1) := by
  obtain ⟨h1, e⟩ := List.getElem?_eq_some_iff.1 h
  rw [List.drop_eq_getElem_cons h1, e]
 rw [hd]
 simp
theorem gp_at {qs : List GP} {i j : Nat} {p : GP} {junk : List Value} {v : Value} (h : qs[i]? = some p) (hv : p.cells[j]? = some v) : (qs.flatMap GP.cells ++ junk)[i * 8 + j]? = some v := by
 have hg := flat_get GP.cells_len qs i p h
 have hj : j < 8 := by have := (List.getElem?_eq_some_iff.1 hv).1; rwa [GP.cells_len] at this
 have e : (qs.flatMap GP.cells)[i * 8 + j]? = some v := by
  rw [← hv, ← hg, List.getElem?_take, if_pos hj, List.getElem?_drop]
 rw [List.getElem?_append_left (List.getElem?_eq_some_iff.1 e).1]; exact e
theorem gp_set : ∀ {qs : List GP} {i j : Nat} {p q : GP} {junk : List Value} {v : Value}, qs[i]? = some p → j < 8 → p.cells.set j v = q.cells → (qs.flatMap GP.cells ++ junk).set (i * 8 + j) v = (qs.set i q).flatMap GP.cells ++ junk
 | [], i, j, p, q, junk, v, h, _, _ => by simp at h
 | x :: r, 0, j, p, q, junk, v, h, hj, hq => by
  simp at h; subst h
  rw [List.set_cons_zero, List.flatMap_cons, List.flatMap_cons, List.append_assoc, List.append_assoc, Nat.zero_mul, Nat.zero_add, List.set_append_left _ _ (by rw [GP.cells_len]; exact hj), hq]
 | x :: r, i + 1, j, p, q, junk, v, h, hj, hq => by
  rw [List.getElem?_cons_succ] at h
  have ih := gp_set (junk := junk) h hj hq
  rw [List.set_cons_succ, List.flatMap_cons, List.flatMap_cons, List.append_assoc, List.append_assoc, List.set_append_right _ _ (by rw [GP.cells_len]; omega), GP.cells_len, show (i + 1) * 8 + j - 8 = i * 8 + j by omega, ih]
theorem gp_len (qs : List GP) : (qs.flatMap GP.cells).length = qs.length * 8 := by rw [flat_len GP.cells_len]
theorem cap_two {ps : List GP} {i : Nat} {p : GP} : ((capI ps i).set i (capT p)).set i (capG p) = (capI ps i).set i (capG p) := by simp
theorem capT_get {ps : List GP} {i : Nat} {p : GP} (h : ps[i]? = some p) : ((capI ps i).set i (capT p))[i]? = some (capT p) := by
 have hi := (List.getElem?_eq_some_iff.1 (capI_get h)).1
 rw [List.getElem?_set, if_pos rfl, if_pos hi]
theorem cap_row {ps : List GP} {m : Nat} {junk : List Value} (hl : ps.length = m) : ((capI ps m).flatMap GP.cells ++ junk).take (m * 8) = (ps.map capG).flatMap GP.cells := by
 rw [capI_all (by omega), List.take_append_of_le_length (by rw [gp_len, List.length_map]; omega), List.take_of_length_le (by rw [gp_len, List.length_map]; omega)]
theorem RG.of_blk {e : TypeId} {w : World} {q m cap : Nat} {cur : List Value} {qs : List GP} (h : w.heap[q]? = some (.cells cur.toArray e (0, 0))) (ht : cur.take (m * 8) = qs.flatMap GP.cells) (hl : qs.length = m) (hc : m ≤ cap ∧ cap ≤ maxLen) (ok : ∀ p ∈ qs, p.ok) : RG w (some ⟨q, 0, none⟩) m cap qs := by
 refine ⟨hl, hc, fun h => by simp at h, fun j u hu => ⟨⟨q, 0, none⟩, rfl, ?_⟩, ok⟩
 rw [Addr.add_lit, Nat.zero_add]
 refine (cell_at h).trans ?_
 rw [← ht] at hu
 rw [List.getElem?_take] at hu
 split at hu
 ·exact hu
 ·cases hu
theorem capG_ok {p : GP} (h : p.ok) : (capG p).ok := ⟨h.ix, h.st, h.en, h.sz, h.att⟩
theorem capG_fit {p : GP} (h : p.fit) : (capG p).fit := ⟨by show (gT (gB p.ty)).length ≤ _; rw [gT_len (gB_len _)]; decide, h.nm, by show (gT (gB p.gu)).length ≤ _; rw [gT_len (gB_len _)]; decide⟩
theorem capG_tz {n : Nat} {p : GP} (h : p.good n) : (capG p).ty ≠ zG := by
 intro e
 have e1 : gB (gT (gB p.ty)) = gB zG := congrArg gB e
 rw [gB_gT (gB_len _), gB_zG] at e1
 exact sameG_z h.ty h.tz e1
theorem caps_ok {ps : List GP} (h : ∀ p ∈ ps, p.ok) : ∀ p ∈ ps.map capG, p.ok := fun q hq => by
 obtain ⟨p, hp, rfl⟩ := List.mem_map.1 hq
 exact capG_ok (h p hp)
theorem caps_fit {ps : List GP} (h : ∀ p ∈ ps, p.fit) : ∀ p ∈ ps.map capG, p.fit := fun q hq => by
 obtain ⟨p, hp, rfl⟩ := List.mem_map.1 hq
 exact capG_fit (h p hp)
theorem caps_un {n : Nat} {ps : List GP} (h : goodL n ps) : ∀ p ∈ ps.map capG, (utf16 p.nm).length ≤ 36 := fun q hq => by
 obtain ⟨p, hp, rfl⟩ := List.mem_map.1 hq
 exact (h.1 p hp).un
theorem caps_tz {n : Nat} {ps : List GP} (h : goodL n ps) : ∀ p ∈ ps.map capG, p.ty ≠ zG := fun q hq => by
 obtain ⟨p, hp, rfl⟩ := List.mem_map.1 hq
 exact capG_tz (h.1 p hp)
theorem eqPT_self (p : GP) : eqPT p p = true := by unfold eqPT; simp
theorem eqPT_comm (p q : GP) : eqPT p q = eqPT q p := by
 rw [Bool.eq_iff_iff, eqPT_iff, eqPT_iff]; exact ⟨Eq.symm, Eq.symm⟩
theorem cmp_self (ps : List GP) : cmpP ps ps = true := cmpP_t rfl fun j p q _ h1 h2 => by
 rw [h1] at h2
 obtain rfl := Option.some.inj h2
 exact eqPT_self p
theorem cmp_iff {ps qs : List GP} : cmpP ps qs = true ↔ ps.length = qs.length ∧ ∀ (j : Nat) (p q : GP), ps[j]? = some p → qs[j]? = some q → eqPT p q = true := by
 constructor
 ·intro h
  unfold cmpP at h
  simp only [Bool.and_eq_true, decide_eq_true_eq] at h
  refine ⟨h.1, fun j p q h1 h2 => ?_⟩
  obtain ⟨a1, a2⟩ := List.getElem?_eq_some_iff.1 h1
  obtain ⟨b1, b2⟩ := List.getElem?_eq_some_iff.1 h2
  refine List.all_eq_true.1 h.2 (p, q) (List.mem_iff_getElem.2 ⟨j, by simp; omega, by rw [List.getElem_zip, a2, b2]⟩)
 ·rintro ⟨h1, h2⟩
  exact cmpP_t h1 fun j p q _ => h2 j p q
theorem cmp_comm (ps qs : List GP) : cmpP ps qs = cmpP qs ps := by
 rw [Bool.eq_iff_iff, cmp_iff, cmp_iff]
 exact ⟨fun h => ⟨h.1.symm, fun j p q h1 h2 => by rw [eqPT_comm]; exact h.2 j q p h2 h1⟩, fun h => ⟨h.1.symm, fun j p q h1 h2 => by rw [eqPT_comm]; exact h.2 j q p h2 h1⟩⟩
theorem same_iff {g h : List UInt8} {ps qs : List GP} (hg : sameG g h = true) : sameT g h ps qs = true ↔ ps.length = qs.length ∧ ∀ (j : Nat) (p q : GP), ps[j]? = some p → qs[j]? = some q → sameP p q = true := by
 constructor
 ·intro h
  unfold sameT at h
  simp only [Bool.and_eq_true, decide_eq_true_eq] at h
  refine ⟨h.2.1, fun j p q h1 h2 => ?_⟩
  obtain ⟨a1, a2⟩ := List.getElem?_eq_some_iff.1 h1
  obtain ⟨b1, b2⟩ := List.getElem?_eq_some_iff.1 h2
  refine List.all_eq_true.1 h.2.2 (p, q) (List.mem_iff_getElem.2 ⟨j, by simp; omega, by rw [List.getElem_zip, a2, b2]⟩)
 ·rintro ⟨h1, h2⟩
  exact sameT_t hg h1 fun j p q _ => h2 j p q
theorem sameG_caps {x y : List UInt8} (hx : x.length = 16) (hy : y.length = 16) : (sameG (gT x) (gT y) = true) ↔ gT x = gT y := by
 unfold sameG
 rw [(gT_ok hx).1, (gT_ok hy).1, gB_gT hx, gB_gT hy]
 simp only [Bool.and_self, Bool.true_and, decide_eq_true_eq]
 exact ⟨fun h => by rw [h], fun h => gT_inj hx hy h⟩
theorem cap_same (p q : GP) : sameP (capG p) (capG q) = true ↔ eqPT (capG p) (capG q) = true := by
 have h1 := sameG_caps (gB_len p.ty) (gB_len q.ty)
 have h2 := sameG_caps (gB_len p.gu) (gB_len q.gu)
 unfold sameP eqPT
 simp only [Bool.and_eq_true, decide_eq_true_eq]
 constructor
 ·rintro ⟨a, b, c, d, e, f, g, h⟩
  exact ⟨a, b, c, d, h1.1 e, g, h2.1 f, h⟩
 ·rintro ⟨a, b, c, d, e, f, g, h⟩
  exact ⟨a, b, c, d, h1.2 e, h2.2 g, f, h⟩
theorem gS_same : sameG gS gS = true := by decide +kernel
theorem caps_same (ps qs : List GP) : sameT gS gS (ps.map capG) (qs.map capG) = cmpP (ps.map capG) (qs.map capG) := by
 rw [Bool.eq_iff_iff, same_iff gS_same, cmp_iff]
 have key : ∀ (j : Nat) (p q : GP), (ps.map capG)[j]? = some p → (qs.map capG)[j]? = some q → (sameP p q = true ↔ eqPT p q = true) := fun j p q h1 h2 => by
  rw [List.getElem?_map] at h1 h2
  obtain ⟨p', _, rfl⟩ := Option.map_eq_some_iff.1 h1
  obtain ⟨q', _, rfl⟩ := Option.map_eq_some_iff.1 h2
  exact cap_same p' q'
 exact ⟨fun h => ⟨h.1, fun j p q h1 h2 => (key j p q h1 h2).1 (h.2 j p q h1 h2)⟩, fun h => ⟨h.1, fun j p q h1 h2 => (key j p q h1 h2).2 (h.2 j p q h1 h2)⟩⟩
end Go.Proofs.YthcaejaaalkglaaDoor.X
/- Walks of functions, printed by a program of this claim. -/
namespace Go.Proofs.YthcaejaaalkglaaDoor.X
set_option linter.unusedVariables false
set_option linter.unusedSimpArgs false
open Go Go.RowKit
namespace PF
theorem ca33 : callable Tryd.prog 33 = true := by kernel_rfl
end PF
open PF
set_option maxRecDepth 100000 in
set_option maxHeartbeats 2000000 in
theorem c_capital (w : World) (D : Option Addr) (m c : Nat) (g : List UInt8) (pr rc : Bool) (ps : List GP) (hq : RG w D m c ps) (hm : m ≤ 200) (hft : ∀ p ∈ ps, p.fit) : Calls Tryd.prog 16 #[.agg (gtCells D m c 512 g pr rc).toArray] w (Ret fun v w' => ∃ (q cap : Nat) (cur : List Value), v = .agg (gtCells (some ⟨q, 0, none⟩) m cap 512 g pr rc).toArray ∧ m ≤ cap ∧ cap ≤ maxLen ∧ cur.take (m * 8) = (ps.map capG).flatMap GP.cells ∧ SH w [] w' [⟨q, .cells cur.toArray 49 (0, 0), true⟩]) := by
 refine enterR [.cell 2 24] Tryd.func16 rfl rfl rfl rfl ?_
 have H := SH.nil w
 have hql := hq.len
 refine sq ?_
 refine rg ?_
 refine bx (v := .agg _) H rfl rfl rfl ?_
 clear H; intro b1 w1 hb1 H _
 refine al H ze24 rfl ?_
 clear H; intro b2 w2 hb2 H _
 refine nl ?_
 refine then_n ?_
 refine sq ?_
 refine rg ?_
 refine bsl (sz := 8) (out := ?o1) H Tryd.underlying22 ze49 sz49_8 (by decide) ?f1 rfl ?_
 case f1 =>
  exact FS.nil
 clear H; intro b3 w3 hb3 H F
 refine fa rfl fo24_0 rfl ?_
 refine ld H rfl sc22 rfl rfl ?_
 have O := OR.made (sz := 8) (n := 0) (cap := 0) H (Nat.le_refl _) (by decide) (by simp)
 have hq2 := hq.keep H.fr
 refine apS (zs := [.int .i64 0, .int .u64 0, .int .u64 0, .int .u64 0, .string ⟨#[]⟩, .string ⟨#[]⟩, .string ⟨#[]⟩, .int .u64 0]) (ps.flatMap GP.cells) O rfl rfl Tryd.underlying22 ri49 (by rw [gp_len]; simp; omega) hq2.at' gp_one hq2.nil (by omega) (by unfold maxLen; omega) rfl ?_
 clear O H; intro a9 cap9 w4 O
 obtain ⟨q, cur, rfl, hcp, hcm, hcl, htk, Ho⟩ := O.blk
 rw [Nat.zero_add m] at hcp ⊢
 have hjk : cur = ps.flatMap GP.cells ++ cur.drop (m * 8) := by
  have e := List.take_append_drop (m * 8) cur
  have htk2 : cur.take (m * 8) = ps.flatMap GP.cells := by simpa using htk
  rw [htk2] at e; exact e.symm
 generalize cur.drop (m * 8) = junk at hjk
 subst hjk
 clear O htk; have H := Ho; clear Ho
 generalize cap9 = cap at hcp hcm hcl
 replace hcl : (ps.flatMap GP.cells ++ junk).length = cap * 8 := hcl
 refine fa rfl fo24_0 rfl ?_
 refine st (v := .slice _ _ _) H rfl rfl sc22 rfl (by show 0 + 0 < 5; decide) (by omega) ?_
 clear H; intro w90 H _
 refine nl ?_
 refine then_n ?_
 refine sq ?_
 refine sq ?_
 refine rg ?_
 refine fa rfl fo24_0 rfl ?_
 refine ld H rfl sc22 rfl rfl ?_
 refine lnS rfl Tryd.underlying22 rfl ?_
 refine mv (v := .int .i64 _) rfl rfl ?_
 refine nl ?_
 refine then_n ?_
 refine bk ?_
 refine lpM (α := Nat) [3, 4, 5, 6, 7, 8, 17, 18, 19, 20, 21, 22, 23, 24, 25, 26, 27, 28, 29, 30, 31, 32, 33, 34, 35, 36, 37, 38, 39, 40, 41, 42, 43, 44, 45, 46, 47, 48, 49, 50] (fun i => [(17, .int .i64 (i : Int))]) (fun i w' => i ≤ m ∧ SH w [] w' [⟨q, .cells ((capI ps i).flatMap GP.cells ++ junk).toArray 49 (0, 0), true⟩, ⟨b2, .cells (gtCells none 0 0 0 [] false false).toArray 24 (0, 0), true⟩, ⟨b1, .cells (gtCells (some ⟨q, 0, none⟩) m cap 512 g pr rc).toArray 24 (0, 0), true⟩]) (fun i => m - i) 0 ?_ (fCX (fN _)) ?_
 ·exact ⟨by omega, by rw [capI_zero]; exact H.subX⟩
 ·rintro i ρx w5 ⟨hi, H⟩
  refine sq ?_
  refine rg ?_
  refine lss rfl rfl rfl ?_
  refine nl ?_
  refine then_n ?_
  refine sq ?_
  refine cd rfl (fun hc1 => ?_) (fun hc1 => ?_)
  ·obtain ⟨p, hpi⟩ : ∃ p, ps[i]? = some p := ⟨_, List.getElem?_eq_getElem (by omega)⟩
   have hci := capI_get hpi
   have hcl9 : ((capI ps i).flatMap GP.cells ++ junk).length = cap * 8 := by
    rw [List.length_append, gp_len, capI_len]; rw [List.length_append, gp_len] at hcl; exact hcl
   have hcl8 : (((capI ps i).set i (capT p)).flatMap GP.cells ++ junk).length = cap * 8 := by
    rw [List.length_append, gp_len, List.length_set]; rw [List.length_append, gp_len] at hcl9; exact hcl9
   have hv4 : ((capI ps i).flatMap GP.cells ++ junk)[i * 8 + 4]? = some (.string (str p.ty)) := gp_at hci rfl
   have hv6 : ((capI ps i).flatMap GP.cells ++ junk)[i * 8 + 6]? = some (.string (str p.gu)) := gp_at hci rfl
   refine sk ?_
   refine then_n ?_
   refine sq ?_
   refine bk ?_
   refine sq ?_
   refine rg ?_
   refine mv (v := .int .i64 _) rfl rfl ?_
   refine asg (v := .int .i64 _) rfl rfl ?_
   refine nl ?_
   refine then_n ?_
   refine sq ?_
   refine rg ?_
   refine fa rfl fo24_0 rfl ?_
   refine ld H rfl sc22 rfl rfl ?_
   refine mv (v := .int .i64 _) rfl rfl ?_
   refine iaN (i * 8) rfl rfl Tryd.underlying22 sz49_8 (by omega) (by omega) rfl ?_
   refine asg (v := .pointer _) rfl rfl ?_
   refine nl ?_
   refine then_n ?_
   refine sq ?_
   refine rg ?_
   refine mv (v := .pointer _) rfl rfl ?_
   refine nc rfl rfl ?_
   refine fa rfl fo49_4 rfl ?_
   refine ld (v := .string (str p.ty)) H rfl sc9 hv4 rfl ?_
   refine cl ca21 (c_guidBytes _ _) rfl ?_
   rintro _ w6 ⟨rfl, F⟩
   replace H := H.keep F; clear F
   refine mv (v := .tuple _) rfl rfl ?_
   refine xt rfl rfl rfl ?_
   refine xt rfl rfl rfl ?_
   refine al H ze45 rfl ?_
   clear H; intro b4 w7 hb4 H _
   refine sa (cs' := Bs (gB p.ty)) H rfl rfl ag45_16 (by rw [Bs_length, gB_len]) (List.all_eq_true.2 Bs_one) (by decide) (by omega) (List.append_nil _) ?_
   clear H; intro w91 H _
   refine asg (v := .bool _) rfl rfl ?_
   refine nl ?_
   refine then_n ?_
   refine sq ?_
   refine rg ?_
   refine mv (v := .pointer _) rfl rfl ?_
   refine nc rfl rfl ?_
   refine fa rfl fo49_6 rfl ?_
   refine ld (v := .string (str p.gu)) H rfl sc9 hv6 rfl ?_
   refine cl ca21 (c_guidBytes _ _) rfl ?_
   rintro _ w8 ⟨rfl, F⟩
   replace H := H.keep F; clear F
   refine mv (v := .tuple _) rfl rfl ?_
   refine xt rfl rfl rfl ?_
   refine xt rfl rfl rfl ?_
   refine al H ze45 rfl ?_
   clear H; intro b5 w9 hb5 H _
   refine sa (cs' := Bs (gB p.gu)) H rfl rfl ag45_16 (by rw [Bs_length, gB_len]) (List.all_eq_true.2 Bs_one) (by decide) (by omega) (List.append_nil _) ?_
   clear H; intro w92 H _
   refine asg (v := .bool _) rfl rfl ?_
   refine nl ?_
   refine then_n ?_
   refine dr (by kernel_rfl) ?_
   have H := H.drew
   refine hold (fun _ => True) [] ?_
   refine tk (i := 0) rfl (by kernel_rfl) rfl trivial (fun _ _ => r_mv (v := .pointer _) rfl) ?_
   refine tk (i := 1) rfl (by kernel_rfl) rfl trivial (fun _ _ => r_mv (v := .pointer _) rfl) ?_
   refine tk (i := 2) rfl (by kernel_rfl) rfl trivial (fun _ _ => r_slY rfl Tryd.underlying45 sz5_1 (by first | trivial | omega | (simp; omega))) ?_
   refine tk (i := 4) rfl (by kernel_rfl) rfl trivial (fun _ _ => r_slY rfl Tryd.underlying45 sz5_1 (by first | trivial | omega | (simp; omega))) ?_
   refine unfree ?_
   refine fo (i := 3) (by kernel_rfl) rfl rfl ?_
   refine cl ca33 (c_guidText _ _ _ _ (gB p.ty) (RB.allm (b := b4) H (gB_len _)) rfl) rfl ?_
   rintro _ w10 ⟨rfl, F⟩
   replace H := H.keep F; clear F
   refine nl ?_
   refine then_n ?_
   refine fo (i := 5) (by kernel_rfl) rfl rfl ?_
   refine cl ca33 (c_guidText _ _ _ _ (gB p.gu) (RB.allm (b := b5) H (gB_len _)) rfl) rfl ?_
   rintro _ w11 ⟨rfl, F⟩
   replace H := H.keep F; clear F
   refine nl ?_
   refine then_n ?_
   refine fo (i := 6) (by kernel_rfl) rfl rfl ?_
   refine nc rfl rfl ?_
   refine nl ?_
   refine then_n ?_
   refine holdH H [8, 11] ?_
   refine tk (i := 7) rfl (by kernel_rfl) rfl H (fun w' H => r_fa rfl fo49_4) ?_
   refine fb (i := 8) (by kernel_rfl) rfl rfl rfl ?_
   refine st (v := .string (str (gT (gB p.ty)))) H rfl rfl sc9 rfl (by omega) (by omega) ?_
   clear H; intro w93 H _
   rw [gp_set (q := capT p) hci (by decide) rfl] at H
   refine nl ?_
   refine then_n ?_
   refine fo (i := 9) (by kernel_rfl) rfl rfl ?_
   refine nc rfl rfl ?_
   refine nl ?_
   refine then_n ?_
   refine holdH H [11] ?_
   refine tk (i := 10) rfl (by kernel_rfl) rfl H (fun w' H => r_fa rfl fo49_6) ?_
   refine fb (i := 11) (by kernel_rfl) rfl rfl rfl ?_
   refine st (v := .string (str (gT (gB p.gu)))) H rfl rfl sc9 rfl (by omega) (by omega) ?_
   clear H; intro w94 H _
   rw [gp_set (q := capG p) (capT_get hpi) (by decide) rfl] at H
   refine nl ?_
   refine then_n ?_
   refine dn (by kernel_rfl) ?_
   refine in_n ?_
   refine then_n ?_
   refine rg ?_
   refine add rfl rfl (by first | exact w_i64 (by omega) | exact w_i64 (rng_i64 _) | rfl) rfl ?_
   refine mv (v := .int .i64 _) rfl rfl ?_
   refine nl ?_
   refine loop_n ?_
   exact ⟨i + 1, (by (try dsimp only); omega), ⟨by omega, by rw [← capI_next hpi, ← cap_two]; exact H.subX⟩, (fCX (fN _)), agX⟩
  ·refine ex ?_
   refine then_e ?_
   refine loop_e ?_
   refine in_hit rfl ?_
   refine then_n ?_
   refine sq ?_
   refine rg ?_
   refine la (vs := gtCells (some ⟨q, 0, none⟩) m cap 512 g pr rc) H rfl ag24_5 rfl rfl rfl ?_
   refine sa (cs' := gtCells (some ⟨q, 0, none⟩) m cap 512 g pr rc) H rfl rfl ag24_5 rfl rfl (by show 0 + 5 ≤ 5; decide) (by omega) rfl ?_
   clear H; intro w95 H _
   refine nl ?_
   refine then_n ?_
   refine rt ?_
   refine finR_r ?_
   obtain rfl : i = m := by omega
   exact ⟨[_], ⟨finC rfl (H.look (b := b2)) ag24_5, trivial⟩, q, cap, _, rfl, hcp, hcm, cap_row hql, H.subX⟩
end Go.Proofs.YthcaejaaalkglaaDoor.X
/- Walks of functions, printed by a program of this claim. -/
namespace Go.Proofs.YthcaejaaalkglaaDoor.X
set_option linter.unusedVariables false
set_option linter.unusedSimpArgs false
open Go Go.RowKit
namespace PF
theorem ca34 : callable Tryd.prog 34 = true := by kernel_rfl
theorem ca35 : callable Tryd.prog 35 = true := by kernel_rfl
end PF
open PF
set_option maxRecDepth 100000 in
set_option maxHeartbeats 2000000 in
theorem c_gptEqual (w : World) (D1 D2 : Option Addr) (m1 c1 m2 c2 : Nat) (g : List UInt8) (rc1 rc2 : Bool) (ps1 ps2 : List GP) (hq1 : RG w D1 m1 c1 ps1) (hq2 : RG w D2 m2 c2 ps2) (hm1 : m1 ≤ 200) (hm2 : m2 ≤ 200) (hft1 : ∀ p ∈ ps1, p.fit) (hft2 : ∀ p ∈ ps2, p.fit) (hun1 : ∀ p ∈ ps1, (utf16 p.nm).length ≤ 36) (hun2 : ∀ p ∈ ps2, (utf16 p.nm).length ≤ 36) (hz : ∀ p ∈ ps1, p.ty ≠ zG) : Calls Tryd.prog 17 #[.agg (gtCells D1 m1 c1 512 g true rc1).toArray, .agg (gtCells D2 m2 c2 512 g true rc2).toArray] w (Ret fun v w' => v = .bool (cmpP ps1 ps2) ∧ Fr [] w w') := by
 refine enter (fun ρ => ρ 4) Tryd.func17 rfl rfl rfl (res1 rfl) ?_
 have H := SH.nil w
 refine sq ?_
 refine rg ?_
 refine bx (v := .agg _) H rfl rfl rfl ?_
 clear H; intro b1 w1 hb1 H _
 refine bx (v := .agg _) H rfl rfl rfl ?_
 clear H; intro b2 w2 hb2 H _
 refine asg (v := .bool _) rfl rfl ?_
 refine nl ?_
 refine then_n ?_
 refine sq ?_
 refine rg ?_
 refine la (vs := gtCells D1 m1 c1 512 g true rc1) H rfl ag24_5 rfl rfl rfl ?_
 refine cl ca34 (c_gptTable _ D1 m1 c1 g true rc1 ps1 (hq1.keep H.fr) (by omega) hft1 hun1) rfl ?_
 rintro _ w3 ⟨t1, E1, k1, l1, rfl, a11, a12, a13, a14, O1⟩
 have hp1 := O1.sh.look (b := t1)
 have hw1 : PW 103 _ E1 m1 l1 ps1 := ⟨O1.pr (fun x hx => .tail _ hx), a11, a12, a13, a14⟩
 have FE := O1.sh.fr
 clear O1
 replace H := H.keep FE; clear FE
 refine mv (v := .tuple _) rfl rfl ?_
 refine xt rfl rfl rfl ?_
 refine xt rfl rfl rfl ?_
 refine asg (v := .pointer _) rfl rfl ?_
 refine asg (v := .bool _) rfl rfl ?_
 refine nl ?_
 refine then_n ?_
 refine sq ?_
 refine rg ?_
 refine la (vs := gtCells D2 m2 c2 512 g true rc2) H rfl ag24_5 rfl rfl rfl ?_
 refine cl ca34 (c_gptTable _ D2 m2 c2 g true rc2 ps2 (hq2.keep H.fr) (by omega) hft2 hun2) rfl ?_
 rintro _ w4 ⟨t2, E2, k2, l2, rfl, a21, a22, a23, a24, O2⟩
 have hp2 := O2.sh.look (b := t2)
 have hw2 : PW 103 _ E2 m2 l2 ps2 := ⟨O2.pr (fun x hx => .tail _ hx), a21, a22, a23, a24⟩
 have FE := O2.sh.fr
 clear O2
 replace H := H.keep FE
 replace hp1 := FE.at hp1 (by simp); replace hw1 := hw1.keep FE; clear FE
 refine mv (v := .tuple _) rfl rfl ?_
 refine xt rfl rfl rfl ?_
 refine xt rfl rfl rfl ?_
 refine asg (v := .pointer _) rfl rfl ?_
 refine asg (v := .bool _) rfl rfl ?_
 refine nl ?_
 refine then_n ?_
 refine sq ?_
 refine rg ?_
 refine mv (v := .bool _) rfl rfl ?_
 refine mv (v := .bool _) rfl rfl ?_
 refine spL (t := 20) (b := true) rfl ?_
 refine gy rfl ?_
 refine mv (v := .bool _) rfl rfl ?_
 refine pkT (v := .bool _) rfl rfl rfl ?_
 refine mv (v := .bool _) rfl rfl ?_
 refine spL (t := 23) (b := true) rfl ?_
 refine gy rfl ?_
 refine mv (v := .pointer _) rfl rfl ?_
 refine gy rfl ?_
 refine mv (v := .pointer _) rfl rfl ?_
 refine gy rfl ?_
 refine cl ca35 (c_tabEqual _ t1 t2 E1 E2 m1 k1 m2 k2 g rc1 rc2 l1 l2 ps1 ps2 hp1 hp2 hw1 hw2 hz hm1) rfl ?_
 rintro _ w5 ⟨rfl, F⟩
 replace H := H.keep F; clear F
 refine pkT (v := .bool _) rfl rfl rfl ?_
 refine asg (v := .bool _) rfl rfl ?_
 refine nl ?_
 refine then_n ?_
 refine rt ?_
 refine fin_r ?_
 exact ⟨rfl, H.fr⟩
end Go.Proofs.YthcaejaaalkglaaDoor.X
/- Walks of functions, printed by a program of this claim. -/
namespace Go.Proofs.YthcaejaaalkglaaDoor.X
set_option linter.unusedVariables false
set_option linter.unusedSimpArgs false
open Go Go.RowKit
namespace PF
theorem ca16 : callable Tryd.prog 16 = true := by kernel_rfl
theorem ca17 : callable Tryd.prog 17 = true := by kernel_rfl
end PF
open PF
set_option maxRecDepth 100000 in
set_option maxHeartbeats 4000000 in
theorem c_FnGptEqual (w : World) (D1 D2 : Option Addr) (m1 c1 m2 c2 : Nat) (s1 s2 : Int) (g1 g2 : List UInt8) (pr1 rc1 pr2 rc2 : Bool) (ps1 ps2 : List GP) (hq1 : RG w D1 m1 c1 ps1) (hq2 : RG w D2 m2 c2 ps2) (hU : Utf8W w) : Calls Tryd.prog 5 #[.agg (gtCells D1 m1 c1 s1 g1 pr1 rc1).toArray, .agg (gtCells D2 m2 c2 s2 g2 pr2 rc2).toArray] w (Ret fun v w' => v = .bool true ∧ Fr [] w w') := by
 refine enter (fun ρ => ρ 4) Tryd.func5 rfl rfl rfl (res1 rfl) ?_
 have H := SH.nil w
 have hql1 := hq1.len
 have hql2 := hq2.len
 refine sq ?_
 refine rg ?_
 refine bx (v := .agg _) H rfl rfl rfl ?_
 clear H; intro b1 w1 hb1 H _
 refine bx (v := .agg _) H rfl rfl rfl ?_
 clear H; intro b2 w2 hb2 H _
 refine asg (v := .bool _) rfl rfl ?_
 refine nl ?_
 refine then_n ?_
 refine sq ?_
 refine sq ?_
 refine rg ?_
 refine la H rfl ag24_5 rfl rfl rfl ?_
 refine cl ca7 (c_fits5 _ D1 m1 c1 s1 g1 pr1 rc1 ps1 (hq1.keep H.fr)) rfl ?_
 rintro _ w3 ⟨g51, rfl, g51h, F⟩
 replace H := H.keep F; clear F
 refine unot rfl rfl ?_
 refine mv (v := .bool _) rfl rfl ?_
 refine sp (t := 8) rfl (fun hg1 => ?_) (fun hg1 => ?_)
 ·refine gn rfl rfl ?_
  refine gn rfl rfl ?_
  refine gn rfl rfl ?_
  refine pkT (v := .bool _) rfl rfl rfl ?_
  refine nl ?_
  refine then_n ?_
  refine cbT rfl rfl ?_
  refine sq ?_
  refine rg ?_
  refine asg (v := .bool _) rfl rfl ?_
  refine nl ?_
  refine then_n ?_
  refine rt ?_
  refine then_r ?_
  refine fin_r ?_
  exact ⟨rfl, H.fr⟩
 ·have h51 := g51h (by simpa using hg1)
  refine gy rfl ?_
  refine la H rfl ag24_5 rfl rfl rfl ?_
  refine gy rfl ?_
  refine cl ca7 (c_fits5 _ D2 m2 c2 s2 g2 pr2 rc2 ps2 (hq2.keep H.fr)) rfl ?_
  rintro _ w4 ⟨g52, rfl, g52h, F⟩
  replace H := H.keep F; clear F
  refine gy rfl ?_
  refine unot rfl rfl ?_
  refine pkF (v := .bool _) rfl rfl rfl ?_
  refine nl ?_
  refine then_n ?_
  refine cn rfl (fun hc1 => ?_) (fun hc1 => ?_)
  ·refine sq ?_
   refine rg ?_
   refine asg (v := .bool _) rfl rfl ?_
   refine nl ?_
   refine then_n ?_
   refine rt ?_
   refine then_r ?_
   refine fin_r ?_
   exact ⟨rfl, H.fr⟩
  ·have h52 := g52h (by simpa using hc1)
   refine sk ?_
   refine then_n ?_
   refine sq ?_
   refine rg ?_
   refine fa rfl fo24_1 rfl ?_
   refine st (v := .int .i64 _) H rfl rfl sc3 rfl (by show 0 + 1 < 5; decide) (by omega) ?_
   clear H; intro w91 H _
   refine fa rfl fo24_3 rfl ?_
   refine st (v := .bool _) H rfl rfl sc4 rfl (by show 0 + 3 < 5; decide) (by omega) ?_
   clear H; intro w93 H _
   refine fa rfl fo24_1 rfl ?_
   refine st (v := .int .i64 _) H rfl rfl sc3 rfl (by show 0 + 1 < 5; decide) (by omega) ?_
   clear H; intro w95 H _
   refine fa rfl fo24_3 rfl ?_
   refine st (v := .bool _) H rfl rfl sc4 rfl (by show 0 + 3 < 5; decide) (by omega) ?_
   clear H; intro w97 H _
   refine nl ?_
   refine then_n ?_
   refine sq ?_
   refine sq ?_
   refine rg ?_
   replace H := sh_cells0 (cs' := gtCells D2 m2 c2 512 g2 true rc2) H rfl
   replace H := sh_cells1 (cs' := gtCells D1 m1 c1 512 g1 true rc1) H rfl
   refine la (vs := gtCells D1 m1 c1 512 g1 true rc1) H rfl ag24_5 rfl rfl rfl ?_
   refine cl ca8 (c_good _ D1 m1 c1 g1 true rc1 ps1 (hq1.keep H.fr) (hU.keep H.fr) 280 (by decide) h51.2.2) rfl ?_
   rintro _ w5 ⟨gg1, rfl, F, hgg1⟩
   replace H := H.keep F; clear F
   refine unot rfl rfl ?_
   refine mv (v := .bool _) rfl rfl ?_
   refine sp (t := 20) rfl (fun hg2 => ?_) (fun hg2 => ?_)
   ·refine gn rfl rfl ?_
    refine gn rfl rfl ?_
    refine gn rfl rfl ?_
    refine pkT (v := .bool _) rfl rfl rfl ?_
    refine nl ?_
    refine then_n ?_
    refine cbT rfl rfl ?_
    refine sq ?_
    refine rg ?_
    refine cl ca9 (c_awake _) rfl ?_
    rintro _ w6 ⟨rfl, F⟩
    replace H := H.keep F; clear F
    refine asg (v := .bool _) rfl rfl ?_
    refine nl ?_
    refine then_n ?_
    refine rt ?_
    refine then_r ?_
    refine fin_r ?_
    exact ⟨rfl, H.fr⟩
   ·obtain ⟨hgu1, hmm1, hgl1⟩ := hgg1 (by simpa using hg2)
    have ok1 := caps_ok hq1.ok
    have ft1 := caps_fit h51.2.2
    have un1 := caps_un hgl1
    have tz1 := caps_tz hgl1
    refine gy rfl ?_
    refine la (vs := gtCells D2 m2 c2 512 g2 true rc2) H rfl ag24_5 rfl rfl rfl ?_
    refine gy rfl ?_
    refine cl ca8 (c_good _ D2 m2 c2 g2 true rc2 ps2 (hq2.keep H.fr) (hU.keep H.fr) 280 (by decide) h52.2.2) rfl ?_
    rintro _ w7 ⟨gg2, rfl, F, hgg2⟩
    replace H := H.keep F; clear F
    refine gy rfl ?_
    refine unot rfl rfl ?_
    refine pkF (v := .bool _) rfl rfl rfl ?_
    refine nl ?_
    refine then_n ?_
    refine cn rfl (fun hc2 => ?_) (fun hc2 => ?_)
    ·refine sq ?_
     refine rg ?_
     refine cl ca9 (c_awake _) rfl ?_
     rintro _ w8 ⟨rfl, F⟩
     replace H := H.keep F; clear F
     refine asg (v := .bool _) rfl rfl ?_
     refine nl ?_
     refine then_n ?_
     refine rt ?_
     refine then_r ?_
     refine fin_r ?_
     exact ⟨rfl, H.fr⟩
    ·obtain ⟨hgu2, hmm2, hgl2⟩ := hgg2 (by simpa using hc2)
     have ok2 := caps_ok hq2.ok
     have ft2 := caps_fit h52.2.2
     have un2 := caps_un hgl2
     have tz2 := caps_tz hgl2
     refine sk ?_
     refine then_n ?_
     refine ctM (α := Nat × Nat × Nat × Nat × List Value × List Value) [26, 27, 28, 29] (fun (q1, q2, k1, k2, u1, u2) => []) (fun (q1, q2, k1, k2, u1, u2) w' => SH w [] w' [⟨q2, .cells u2.toArray 49 (0, 0), true⟩, ⟨q1, .cells u1.toArray 49 (0, 0), true⟩, ⟨b2, .cells (gtCells (some ⟨q2, 0, none⟩) m2 k2 512 g2 true rc2).toArray 24 (0, 0), true⟩, ⟨b1, .cells (gtCells (some ⟨q1, 0, none⟩) m1 k1 512 g1 true rc1).toArray 24 (0, 0), true⟩] ∧ (m1 ≤ k1 ∧ k1 ≤ maxLen ∧ u1.take (m1 * 8) = (ps1.map capG).flatMap GP.cells) ∧ (m2 ≤ k2 ∧ k2 ≤ maxLen ∧ u2.take (m2 * 8) = (ps2.map capG).flatMap GP.cells)) ?_ ?_
     ·refine dr (by kernel_rfl) ?_
      have H := H.drew
      refine holdH H [4, 5] ?_
      refine tk (i := 0) rfl (by kernel_rfl) rfl H (fun w' H => r_la (vs := gtCells D1 m1 c1 512 g1 true rc1) H rfl ag24_5 rfl rfl) ?_
      refine manyA (R := [1, 2]) (by kernel_rfl) ?_ (by simp)
      simp only [List.forall_mem_cons]
      refine ⟨⟨_, rfl, rfl, ?_⟩, ⟨_, rfl, rfl, ?_⟩, by simp⟩
      ·refine cl ca16 (c_capital _ D1 m1 c1 g1 true rc1 ps1 (hq1.keep H.fr) (by omega) (h51.2.2)) rfl ?_
       rintro _ w9 ⟨q1, k1, u1, rfl, hk1, hx1, hu1, K⟩
       replace H := H.join K (by simp); simp only [List.cons_append, List.nil_append] at H; clear K
       refine nl ?_
       refine then_n ?_
       refine ⟨H.drop, ?_⟩
       refine fk (i := 2) (by kernel_rfl) rfl rfl rfl ?_
       refine la (vs := gtCells D2 m2 c2 512 g2 true rc2) H rfl ag24_5 rfl rfl rfl ?_
       refine nl ?_
       refine then_n ?_
       refine ⟨H.drop, ?_⟩
       refine fk (i := 3) (by kernel_rfl) rfl rfl rfl ?_
       refine cl ca16 (c_capital _ D2 m2 c2 g2 true rc2 ps2 (hq2.keep H.fr) (by omega) (h52.2.2)) rfl ?_
       rintro _ w10 ⟨q2, k2, u2, rfl, hk2, hx2, hu2, K⟩
       replace H := H.join K (by simp); simp only [List.cons_append, List.nil_append] at H; clear K
       refine nl ?_
       refine then_n ?_
       refine ⟨H.drop.drop, ?_⟩
       refine fb (i := 4) (by kernel_rfl) rfl rfl rfl ?_
       refine sa (cs' := gtCells (some ⟨q1, 0, none⟩) m1 k1 512 g1 true rc1) H rfl rfl ag24_5 rfl rfl (by show 0 + 5 ≤ 5; decide) (by omega) rfl ?_
       clear H; intro w96 H _
       refine nl ?_
       refine then_n ?_
       refine fo (i := 5) (by kernel_rfl) rfl rfl ?_
       refine sa (cs' := gtCells (some ⟨q2, 0, none⟩) m2 k2 512 g2 true rc2) H rfl rfl ag24_5 rfl rfl (by show 0 + 5 ≤ 5; decide) (by omega) rfl ?_
       clear H; intro w97 H _
       refine nl ?_
       refine then_n ?_
       refine dn (by kernel_rfl) ?_
       refine then_n ?_
       exact ⟨(q1, q2, k1, k2, u1, u2), ⟨H.subX, ⟨hk1, hx1, hu1⟩, hk2, hx2, hu2⟩, (fN _), agX⟩
      ·refine la (vs := gtCells D2 m2 c2 512 g2 true rc2) H rfl ag24_5 rfl rfl rfl ?_
       refine nl ?_
       refine then_n ?_
       refine ⟨H, ?_⟩
       refine fk (i := 1) (by kernel_rfl) rfl rfl rfl ?_
       refine cl ca16 (c_capital _ D1 m1 c1 g1 true rc1 ps1 (hq1.keep H.fr) (by omega) (h51.2.2)) rfl ?_
       rintro _ w11 ⟨q1, k1, u1, rfl, hk1, hx1, hu1, K⟩
       replace H := H.join K (by simp); simp only [List.cons_append, List.nil_append] at H; clear K
       refine nl ?_
       refine then_n ?_
       refine ⟨H.drop, ?_⟩
       refine fk (i := 3) (by kernel_rfl) rfl rfl rfl ?_
       refine cl ca16 (c_capital _ D2 m2 c2 g2 true rc2 ps2 (hq2.keep H.fr) (by omega) (h52.2.2)) rfl ?_
       rintro _ w12 ⟨q2, k2, u2, rfl, hk2, hx2, hu2, K⟩
       replace H := H.join K (by simp); simp only [List.cons_append, List.nil_append] at H; clear K
       refine nl ?_
       refine then_n ?_
       refine ⟨H.drop.drop, ?_⟩
       refine fb (i := 4) (by kernel_rfl) rfl rfl rfl ?_
       refine sa (cs' := gtCells (some ⟨q1, 0, none⟩) m1 k1 512 g1 true rc1) H rfl rfl ag24_5 rfl rfl (by show 0 + 5 ≤ 5; decide) (by omega) rfl ?_
       clear H; intro w96 H _
       refine nl ?_
       refine then_n ?_
       refine fo (i := 5) (by kernel_rfl) rfl rfl ?_
       refine sa (cs' := gtCells (some ⟨q2, 0, none⟩) m2 k2 512 g2 true rc2) H rfl rfl ag24_5 rfl rfl (by show 0 + 5 ≤ 5; decide) (by omega) rfl ?_
       clear H; intro w97 H _
       refine nl ?_
       refine then_n ?_
       refine dn (by kernel_rfl) ?_
       refine then_n ?_
       exact ⟨(q1, q2, k1, k2, u1, u2), ⟨H.subX, ⟨hk1, hx1, hu1⟩, hk2, hx2, hu2⟩, (fN _), agX⟩
     ·rintro ⟨q1, q2, k1, k2, u1, u2⟩ ρx w13 ⟨H, ⟨hk1, hx1, hu1⟩, hk2, hx2, hu2⟩
      refine sq ?_
      refine rg ?_
      refine fa rfl fo24_2 rfl ?_
      refine st (v := .string (str gS)) H rfl rfl sc9 rfl (by show 0 + 2 < 5; decide) (by omega) ?_
      clear H; intro w98 H _
      refine fa rfl fo24_2 rfl ?_
      refine st (v := .string (str gS)) H rfl rfl sc9 rfl (by show 0 + 2 < 5; decide) (by omega) ?_
      clear H; intro w99 H _
      refine nl ?_
      refine then_n ?_
      refine sq ?_
      refine dr (by kernel_rfl) ?_
      have H := H.drew
      replace H := (show SH w [] _ [⟨q2, .cells u2.toArray 49 (0, 0), true⟩, ⟨q1, .cells u1.toArray 49 (0, 0), true⟩, ⟨b2, .cells (gtCells (some ⟨q2, 0, none⟩) m2 k2 512 gS true rc2).toArray 24 (0, 0), true⟩, ⟨b1, .cells (gtCells (some ⟨q1, 0, none⟩) m1 k1 512 gS true rc1).toArray 24 (0, 0), true⟩] from H)
      refine holdH H [] ?_
      refine tk (i := 0) rfl (by kernel_rfl) rfl H (fun w' H => r_la (vs := gtCells (some ⟨q1, 0, none⟩) m1 k1 512 gS true rc1) H rfl ag24_5 rfl rfl) ?_
      refine tk (i := 1) rfl (by kernel_rfl) rfl H (fun w' H => r_la (vs := gtCells (some ⟨q1, 0, none⟩) m1 k1 512 gS true rc1) H rfl ag24_5 rfl rfl) ?_
      refine fk (i := 2) (by kernel_rfl) rfl rfl rfl ?_
      refine cl ca17 (c_gptEqual _ (some ⟨q1, 0, none⟩) (some ⟨q1, 0, none⟩) m1 k1 m1 k1 gS rc1 rc1 (ps1.map capG) (ps1.map capG) (RG.of_blk (H.look (b := q1)) hu1 (by rw [List.length_map]; exact hql1) ⟨hk1, hx1⟩ ok1) (RG.of_blk (H.look (b := q1)) hu1 (by rw [List.length_map]; exact hql1) ⟨hk1, hx1⟩ ok1) (by omega) (by omega) ft1 ft1 un1 un1 tz1) rfl ?_
      rintro _ w14 ⟨rfl, F⟩
      replace H := H.keep F; clear F
      rw [cmp_self]
      refine nl ?_
      refine then_n ?_
      refine ⟨H, ?_⟩
      refine tk (i := 3) rfl (by kernel_rfl) rfl H (fun w' H => r_mv (v := .bool _) rfl) ?_
      refine spaL (t := 35) (b := true) rfl ?_
      refine tkg (i := 4) rfl (by kernel_rfl) rfl H rfl (fun w' H => r_la (vs := gtCells (some ⟨q2, 0, none⟩) m2 k2 512 gS true rc2) H rfl ag24_5 rfl rfl) ?_
      refine tkg (i := 5) rfl (by kernel_rfl) rfl H rfl (fun w' H => r_la (vs := gtCells (some ⟨q2, 0, none⟩) m2 k2 512 gS true rc2) H rfl ag24_5 rfl rfl) ?_
      refine fk (i := 6) (by kernel_rfl) rfl rfl rfl ?_
      refine gy rfl ?_
      refine cl ca17 (c_gptEqual _ (some ⟨q2, 0, none⟩) (some ⟨q2, 0, none⟩) m2 k2 m2 k2 gS rc2 rc2 (ps2.map capG) (ps2.map capG) (RG.of_blk (H.look (b := q2)) hu2 (by rw [List.length_map]; exact hql2) ⟨hk2, hx2⟩ ok2) (RG.of_blk (H.look (b := q2)) hu2 (by rw [List.length_map]; exact hql2) ⟨hk2, hx2⟩ ok2) (by omega) (by omega) ft2 ft2 un2 un2 tz2) rfl ?_
      rintro _ w15 ⟨rfl, F⟩
      replace H := H.keep F; clear F
      rw [cmp_self]
      refine nl ?_
      refine then_n ?_
      refine ⟨H, ?_⟩
      refine tk (i := 7) rfl (by kernel_rfl) rfl H (fun w' H => r_pkT (v := .bool _) rfl rfl) ?_
      refine tk (i := 8) rfl (by kernel_rfl) rfl H (fun w' H => r_mv (v := .bool _) rfl) ?_
      refine spaL (t := 40) (b := true) rfl ?_
      refine tkg (i := 9) rfl (by kernel_rfl) rfl H rfl (fun w' H => r_la (vs := gtCells (some ⟨q1, 0, none⟩) m1 k1 512 gS true rc1) H rfl ag24_5 rfl rfl) ?_
      refine tkg (i := 10) rfl (by kernel_rfl) rfl H rfl (fun w' H => r_la (vs := gtCells (some ⟨q2, 0, none⟩) m2 k2 512 gS true rc2) H rfl ag24_5 rfl rfl) ?_
      refine tkg (i := 12) rfl (by kernel_rfl) rfl H rfl (fun w' H => r_la (vs := gtCells (some ⟨q1, 0, none⟩) m1 k1 512 gS true rc1) H rfl ag24_5 rfl rfl) ?_
      refine tkg (i := 13) rfl (by kernel_rfl) rfl H rfl (fun w' H => r_la (vs := gtCells (some ⟨q2, 0, none⟩) m2 k2 512 gS true rc2) H rfl ag24_5 rfl rfl) ?_
      refine fk (i := 11) (by kernel_rfl) rfl rfl rfl ?_
      refine gy rfl ?_
      refine cl ca17 (c_gptEqual _ (some ⟨q1, 0, none⟩) (some ⟨q2, 0, none⟩) m1 k1 m2 k2 gS rc1 rc2 (ps1.map capG) (ps2.map capG) (RG.of_blk (H.look (b := q1)) hu1 (by rw [List.length_map]; exact hql1) ⟨hk1, hx1⟩ ok1) (RG.of_blk (H.look (b := q2)) hu2 (by rw [List.length_map]; exact hql2) ⟨hk2, hx2⟩ ok2) (by omega) (by omega) ft1 ft2 un1 un2 tz1) rfl ?_
      rintro _ w16 ⟨rfl, F⟩
      replace H := H.keep F; clear F
      refine nl ?_
      refine then_n ?_
      refine ⟨H, ?_⟩
      refine fk (i := 14) (by kernel_rfl) rfl rfl rfl ?_
      refine gy rfl ?_
      refine cl ca13 (c_sameGpt _ (some ⟨q1, 0, none⟩) (some ⟨q2, 0, none⟩) m1 k1 m2 k2 gS gS _ _ _ _ (ps1.map capG) (ps2.map capG) (RG.of_blk (H.look (b := q1)) hu1 (by rw [List.length_map]; exact hql1) ⟨hk1, hx1⟩ ok1) (RG.of_blk (H.look (b := q2)) hu2 (by rw [List.length_map]; exact hql2) ⟨hk2, hx2⟩ ok2) (by omega)) rfl ?_
      rintro _ w17 ⟨rfl, F⟩
      replace H := H.keep F; clear F
      rw [caps_same]
      refine nl ?_
      refine then_n ?_
      refine ⟨H, ?_⟩
      refine tkg (i := 15) rfl (by kernel_rfl) rfl H rfl (fun w' H => r_eqlB rfl rfl Tryd.underlying4) ?_
      refine tk (i := 16) rfl (by kernel_rfl) rfl H (fun w' H => r_pkT (v := .bool _) rfl rfl) ?_
      refine tk (i := 17) rfl (by kernel_rfl) rfl H (fun w' H => r_mv (v := .bool _) rfl) ?_
      refine spaT (t := 49) rfl rfl ?_
      refine tkg (i := 18) rfl (by kernel_rfl) rfl H rfl (fun w' H => r_la (vs := gtCells (some ⟨q2, 0, none⟩) m2 k2 512 gS true rc2) H rfl ag24_5 rfl rfl) ?_
      refine tkg (i := 19) rfl (by kernel_rfl) rfl H rfl (fun w' H => r_la (vs := gtCells (some ⟨q1, 0, none⟩) m1 k1 512 gS true rc1) H rfl ag24_5 rfl rfl) ?_
      refine tkg (i := 21) rfl (by kernel_rfl) rfl H rfl (fun w' H => r_la (vs := gtCells (some ⟨q1, 0, none⟩) m1 k1 512 gS true rc1) H rfl ag24_5 rfl rfl) ?_
      refine tkg (i := 22) rfl (by kernel_rfl) rfl H rfl (fun w' H => r_la (vs := gtCells (some ⟨q2, 0, none⟩) m2 k2 512 gS true rc2) H rfl ag24_5 rfl rfl) ?_
      refine fk (i := 20) (by kernel_rfl) rfl rfl rfl ?_
      refine gy rfl ?_
      refine cl ca17 (c_gptEqual _ (some ⟨q2, 0, none⟩) (some ⟨q1, 0, none⟩) m2 k2 m1 k1 gS rc2 rc1 (ps2.map capG) (ps1.map capG) (RG.of_blk (H.look (b := q2)) hu2 (by rw [List.length_map]; exact hql2) ⟨hk2, hx2⟩ ok2) (RG.of_blk (H.look (b := q1)) hu1 (by rw [List.length_map]; exact hql1) ⟨hk1, hx1⟩ ok1) (by omega) (by omega) ft2 ft1 un2 un1 tz2) rfl ?_
      rintro _ w18 ⟨rfl, F⟩
      replace H := H.keep F; clear F
      refine nl ?_
      refine then_n ?_
      refine ⟨H, ?_⟩
      refine fk (i := 23) (by kernel_rfl) rfl rfl rfl ?_
      refine gy rfl ?_
      refine cl ca17 (c_gptEqual _ (some ⟨q1, 0, none⟩) (some ⟨q2, 0, none⟩) m1 k1 m2 k2 gS rc1 rc2 (ps1.map capG) (ps2.map capG) (RG.of_blk (H.look (b := q1)) hu1 (by rw [List.length_map]; exact hql1) ⟨hk1, hx1⟩ ok1) (RG.of_blk (H.look (b := q2)) hu2 (by rw [List.length_map]; exact hql2) ⟨hk2, hx2⟩ ok2) (by omega) (by omega) ft1 ft2 un1 un2 tz1) rfl ?_
      rintro _ w19 ⟨rfl, F⟩
      replace H := H.keep F; clear F
      refine nl ?_
      refine then_n ?_
      refine ⟨H, ?_⟩
      refine tkg (i := 24) rfl (by kernel_rfl) rfl H rfl (fun w' H => r_eqlB rfl rfl Tryd.underlying4) ?_
      refine tk (i := 25) rfl (by kernel_rfl) rfl H (fun w' H => r_pkT (v := .bool _) rfl rfl) ?_
      refine tk (i := 26) rfl (by kernel_rfl) rfl H (fun w' H => r_asg (v := .bool _) rfl) ?_
      refine da (by kernel_rfl) ?_
      refine then_n ?_
      refine rt ?_
      refine fin_r ?_
      exact ⟨congrArg Value.bool (decide_eq_true (cmp_comm _ _)), H.fr⟩
end Go.Proofs.YthcaejaaalkglaaDoor.X
