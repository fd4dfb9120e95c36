/- Laws and walks on the road to the statement: P49, ApZ, GatPure, MbrRow, MbrTab, MbrTab2, P50, P51, P52, GatLaw, GatWr, P53, P54, TypeMiss, P55, P56, P57. -/
import Derived.Test.YthcaejaaalkglaaGreatDoorM9
import Derived.DataElems
/- Walks of functions, printed by a program of this claim. -/
namespace Go.Proofs.YthcaejaaalkglaaGreatDoor.X
set_option linter.unusedVariables false
set_option linter.unusedSimpArgs false
open Go Go.RowKit
open PF
set_option maxRecDepth 100000 in
set_option maxHeartbeats 2000000 in
theorem c_textOf (w : World) (A : Option Addr) (n c : Nat) (us : List Int) (hR : R16 w A n us) (hn : n ≤ 1000) (hus : ∀ u ∈ us, 0 ≤ u ∧ u ≤ 65535) : Calls Tryz.prog 60 #[.slice A n c] w (Ret fun v w' => v = .string (str (encL (dec16 (upto0 us)))) ∧ Fr [] w w') := by
 refine enter (fun ρ => ρ 2) Tryz.func60 rfl rfl rfl (res1 rfl) ?_
 have H := SH.nil w
 have hul := hR.1
 have htl := tw_le us
 refine sq ?_
 refine rg ?_
 refine asg (v := .string _) rfl rfl ?_
 refine nl ?_
 refine then_n ?_
 refine sq ?_
 refine rg ?_
 refine asg (v := .slice _ _ _) rfl rfl ?_
 refine nl ?_
 refine then_n ?_
 refine sq ?_
 refine sq ?_
 refine rg ?_
 refine asg (v := .int .i64 _) rfl rfl ?_
 refine nl ?_
 refine then_n ?_
 refine bk ?_
 refine lpM (α := Nat × Option Addr × Nat × List Int) [3, 4, 5, 6, 7, 8, 9, 10, 11, 12, 13, 14, 15, 16, 17, 18, 19, 20, 21, 22, 23, 24, 25, 26, 27, 28, 29, 30, 31, 32, 33, 34, 35, 36, 37, 38, 39, 40, 41, 42, 43, 44, 45, 46, 47, 48, 49, 50, 51, 52, 53, 54, 55, 56, 57, 58, 59, 60, 61, 62, 63, 64, 65, 66, 67, 68, 69, 70, 71, 72, 73, 74, 75, 76] (fun (i, D, cap, rs) => [(3, .slice D rs.length cap), (4, .int .i64 (i : Int))]) (fun (i, D, cap, rs) w' => i ≤ (upto0 us).length ∧ rs.length ≤ i ∧ dec16 (upto0 us) = rs ++ dec16 ((upto0 us).drop i) ∧ OR 21 1 w [] w' [] D rs.length cap (rs.map (Value.int .i32))) (fun (i, D, cap, rs) => n - i) (0, none, 0, []) ?_ (fCX (fCX (fN _))) ?_
 ·exact ⟨by omega, by simp, rfl, OR.nil H⟩
 ·rintro ⟨i, D, cap, rs⟩ ρx w1 ⟨hi, hk, hd, O⟩
  have H := O.sh
  refine sq ?_
  refine sq ?_
  refine rg ?_
  refine mv (v := .int .i64 _) rfl rfl ?_
  refine mv (v := .slice _ _ _) rfl rfl ?_
  refine lnS rfl Tryz.underlying90 rfl ?_
  refine lss rfl rfl rfl ?_
  refine mv (v := .bool _) rfl rfl ?_
  refine spd (t := 10) rfl (fun hg1 => ?_) (fun hg1 => ?_)
  ·obtain ⟨u, hu⟩ : ∃ u, us[i]? = some u := ⟨_, List.getElem?_eq_getElem (by omega)⟩
   have hur := hus u (List.mem_of_getElem? hu)
   obtain ⟨ad, rfl, hcell⟩ := hR.2 i u hu
   have hcell := H.fr.cell hcell (by simp)
   refine gy rfl ?_
   refine mv (v := .slice _ _ _) rfl rfl ?_
   refine gy rfl ?_
   refine mv (v := .int .i64 _) rfl rfl ?_
   refine gy rfl ?_
   refine iA rfl rfl Tryz.underlying90 sz25_1 (by omega) rfl ?_
   refine gy rfl ?_
   refine lc rfl (by first | assumption | exact H.fr.cell (by assumption) (by simp)) sc25 rfl ?_
   refine gy rfl ?_
   refine neq rfl rfl rfl ?_
   refine pkT (v := .bool _) rfl rfl rfl ?_
   refine nl ?_
   refine then_n ?_
   refine cd rfl (fun hc1 => ?_) (fun hc1 => ?_)
   ·have hu0 := tw_go hi hu (by omega)
    have hil := (List.getElem?_eq_some_iff.1 hu0).1
    refine sk ?_
    refine then_n ?_
    refine sq ?_
    refine bk ?_
    refine sq ?_
    refine rg ?_
    refine mv (v := .slice _ _ _) rfl rfl ?_
    refine mv (v := .int .i64 _) rfl rfl ?_
    refine iA rfl rfl Tryz.underlying90 sz25_1 (by omega) rfl ?_
    refine lc rfl (by first | assumption | exact H.fr.cell (by assumption) (by simp)) sc25 rfl ?_
    refine cvi rfl rfl Tryz.underlying21 (by first | exact w_i32 (by omega) | exact w_i32 (rng_i32 _) | rfl) rfl ?_
    refine asg (v := .int .i32 _) rfl rfl ?_
    refine nl ?_
    refine then_n ?_
    refine ctM (α := Int × Nat) [4, 5, 24, 25, 26, 27, 28, 29, 30, 31, 32, 33, 34, 35, 36, 37, 38, 39, 40, 41, 42, 43, 44, 45, 46, 47, 48, 49, 50, 51, 52, 53, 54, 55, 56, 57, 58, 59, 60, 61, 62, 63, 64, 65, 66] (fun (r, j) => [(4, .int .i64 (j : Int)), (5, .int .i32 r)]) (fun (r, j) w' => i ≤ j ∧ j + 1 ≤ (upto0 us).length ∧ dec16 ((upto0 us).drop i) = fixR r :: dec16 ((upto0 us).drop (j + 1)) ∧ (0 ≤ r ∧ r ≤ 1114111) ∧ OR 21 1 w [] w' [] D rs.length cap (rs.map (Value.int .i32))) ?_ ?_
    ·refine sq ?_
     refine rg ?_
     refine mv (v := .int .i32 _) rfl rfl ?_
     refine geq rfl rfl rfl ?_
     refine mv (v := .bool _) rfl rfl ?_
     refine spd (t := 26) rfl (fun hg2 => ?_) (fun hg2 => ?_)
     ·refine gy rfl ?_
      refine mv (v := .int .i32 _) rfl rfl ?_
      refine gy rfl ?_
      refine lss rfl rfl rfl ?_
      refine pkT (v := .bool _) rfl rfl rfl ?_
      refine mv (v := .bool _) rfl rfl ?_
      refine spd (t := 30) rfl (fun hg3 => ?_) (fun hg3 => ?_)
      ·refine gy rfl ?_
       refine mv (v := .int .i64 _) rfl rfl ?_
       refine gy rfl ?_
       refine add rfl rfl (by first | exact w_i64 (by omega) | exact w_i64 (rng_i64 _) | rfl) rfl ?_
       refine gy rfl ?_
       refine mv (v := .slice _ _ _) rfl rfl ?_
       refine gy rfl ?_
       refine lnS rfl Tryz.underlying90 rfl ?_
       refine gy rfl ?_
       refine lss rfl rfl rfl ?_
       refine pkT (v := .bool _) rfl rfl rfl ?_
       refine mv (v := .bool _) rfl rfl ?_
       refine spd (t := 37) rfl (fun hg4 => ?_) (fun hg4 => ?_)
       ·obtain ⟨v2, hv2⟩ : ∃ v, us[i + 1]? = some v := ⟨_, List.getElem?_eq_getElem (by omega)⟩
        have hvr := hus v2 (List.mem_of_getElem? hv2)
        have hcell2 := H.fr.cell (hR.at hv2) (by simp)
        refine gy rfl ?_
        refine mv (v := .slice _ _ _) rfl rfl ?_
        refine gy rfl ?_
        refine mv (v := .int .i64 _) rfl rfl ?_
        refine gy rfl ?_
        refine add rfl rfl (by first | exact w_i64 (by omega) | exact w_i64 (rng_i64 _) | rfl) rfl ?_
        refine gy rfl ?_
        refine iA rfl rfl Tryz.underlying90 sz25_1 (by omega) rfl ?_
        refine gy rfl ?_
        refine lc rfl (by first | assumption | exact H.fr.cell (by assumption) (by simp)) sc25 rfl ?_
        refine gy rfl ?_
        refine geq rfl rfl rfl ?_
        refine pkT (v := .bool _) rfl rfl rfl ?_
        refine mv (v := .bool _) rfl rfl ?_
        refine spd (t := 45) rfl (fun hg5 => ?_) (fun hg5 => ?_)
        ·refine gy rfl ?_
         refine mv (v := .slice _ _ _) rfl rfl ?_
         refine gy rfl ?_
         refine mv (v := .int .i64 _) rfl rfl ?_
         refine gy rfl ?_
         refine add rfl rfl (by first | exact w_i64 (by omega) | exact w_i64 (rng_i64 _) | rfl) rfl ?_
         refine gy rfl ?_
         refine iA rfl rfl Tryz.underlying90 sz25_1 (by omega) rfl ?_
         refine gy rfl ?_
         refine lc rfl (by first | assumption | exact H.fr.cell (by assumption) (by simp)) sc25 rfl ?_
         refine gy rfl ?_
         refine lss rfl rfl rfl ?_
         refine pkT (v := .bool _) rfl rfl rfl ?_
         refine nl ?_
         refine then_n ?_
         refine cd rfl (fun hc2 => ?_) (fun hc2 => ?_)
         ·have hv0 := tw_go (by omega) hv2 (by omega)
          have hil2 := (List.getElem?_eq_some_iff.1 hv0).1
          refine sq ?_
          refine rg ?_
          refine mv (v := .int .i32 _) rfl rfl ?_
          refine sub rfl rfl (by first | exact w_i32 (by omega) | exact w_i32 (rng_i32 _) | rfl) rfl ?_
          refine shlK (s := 10) (p := 1024) rfl rfl (by decide) (by decide) (by first | exact w_i32 (by omega) | exact w_i32 (rng_i32 _) | rfl) rfl ?_
          refine add rfl rfl (by first | exact w_i32 (by omega) | exact w_i32 (rng_i32 _) | rfl) rfl ?_
          refine mv (v := .slice _ _ _) rfl rfl ?_
          refine mv (v := .int .i64 _) rfl rfl ?_
          refine add rfl rfl (by first | exact w_i64 (by omega) | exact w_i64 (rng_i64 _) | rfl) rfl ?_
          refine iA rfl rfl Tryz.underlying90 sz25_1 (by omega) rfl ?_
          refine lc rfl (by first | assumption | exact H.fr.cell (by assumption) (by simp)) sc25 rfl ?_
          refine cvi rfl rfl Tryz.underlying21 (by first | exact w_i32 (by omega) | exact w_i32 (rng_i32 _) | rfl) rfl ?_
          refine add rfl rfl (by first | exact w_i32 (by omega) | exact w_i32 (rng_i32 _) | rfl) rfl ?_
          refine sub rfl rfl (by first | exact w_i32 (by omega) | exact w_i32 (rng_i32 _) | rfl) rfl ?_
          refine asg (v := .int .i32 _) rfl rfl ?_
          refine nl ?_
          refine then_n ?_
          refine rg ?_
          refine mv (v := .int .i64 _) rfl rfl ?_
          refine add rfl rfl (by first | exact w_i64 (by omega) | exact w_i64 (rng_i64 _) | rfl) rfl ?_
          refine asg (v := .int .i64 _) rfl rfl ?_
          refine nl ?_
          refine then_n ?_
          exact ⟨(_, i + 1), ⟨by omega, by omega, fix_two hu0 hv0 (by omega) (by omega), by omega, O⟩, (fCX (fCX (fN _))), agX⟩
         ·refine sk ?_
          refine then_n ?_
          exact ⟨(u, i), ⟨by omega, by omega, fix_one hu0 (fun v h => by have h9 := tw_sub h; rw [hv2] at h9; cases h9; omega), by omega, O⟩, (fCX (fCX (fN _))), agX⟩
        ·refine gn rfl rfl ?_
         refine gn rfl rfl ?_
         refine gn rfl rfl ?_
         refine gn rfl rfl ?_
         refine gn rfl rfl ?_
         refine gn rfl rfl ?_
         refine pkF (v := .bool _) rfl rfl rfl ?_
         refine nl ?_
         refine then_n ?_
         refine cbF rfl rfl ?_
         refine sk ?_
         refine then_n ?_
         exact ⟨(u, i), ⟨by omega, by omega, fix_one hu0 (fun v h => by have h9 := tw_sub h; rw [hv2] at h9; cases h9; omega), by omega, O⟩, (fCX (fCX (fN _))), agX⟩
       ·refine gn rfl rfl ?_
        refine gn rfl rfl ?_
        refine gn rfl rfl ?_
        refine gn rfl rfl ?_
        refine gn rfl rfl ?_
        refine gn rfl rfl ?_
        refine pkF (v := .bool _) rfl rfl rfl ?_
        refine mv (v := .bool _) rfl rfl ?_
        refine gn rfl rfl ?_
        refine gn rfl rfl ?_
        refine gn rfl rfl ?_
        refine gn rfl rfl ?_
        refine gn rfl rfl ?_
        refine gn rfl rfl ?_
        refine pkF (v := .bool _) rfl rfl rfl ?_
        refine nl ?_
        refine then_n ?_
        refine cbF rfl rfl ?_
        refine sk ?_
        refine then_n ?_
        exact ⟨(u, i), ⟨by omega, by omega, fix_one hu0 (fun v h => by have := (List.getElem?_eq_some_iff.1 (tw_sub h)).1; omega), by omega, O⟩, (fCX (fCX (fN _))), agX⟩
      ·refine gn rfl rfl ?_
       refine gn rfl rfl ?_
       refine gn rfl rfl ?_
       refine gn rfl rfl ?_
       refine gn rfl rfl ?_
       refine pkF (v := .bool _) rfl rfl rfl ?_
       refine mv (v := .bool _) rfl rfl ?_
       refine gn rfl rfl ?_
       refine gn rfl rfl ?_
       refine gn rfl rfl ?_
       refine gn rfl rfl ?_
       refine gn rfl rfl ?_
       refine gn rfl rfl ?_
       refine pkF (v := .bool _) rfl rfl rfl ?_
       refine mv (v := .bool _) rfl rfl ?_
       refine gn rfl rfl ?_
       refine gn rfl rfl ?_
       refine gn rfl rfl ?_
       refine gn rfl rfl ?_
       refine gn rfl rfl ?_
       refine gn rfl rfl ?_
       refine pkF (v := .bool _) rfl rfl rfl ?_
       refine nl ?_
       refine then_n ?_
       refine cbF rfl rfl ?_
       refine sk ?_
       refine then_n ?_
       exact ⟨(u, i), ⟨by omega, by omega, fix_one hu0 (fun v h => by omega), by omega, O⟩, (fCX (fCX (fN _))), agX⟩
     ·refine gn rfl rfl ?_
      refine gn rfl rfl ?_
      refine pkF (v := .bool _) rfl rfl rfl ?_
      refine mv (v := .bool _) rfl rfl ?_
      refine gn rfl rfl ?_
      refine gn rfl rfl ?_
      refine gn rfl rfl ?_
      refine gn rfl rfl ?_
      refine gn rfl rfl ?_
      refine pkF (v := .bool _) rfl rfl rfl ?_
      refine mv (v := .bool _) rfl rfl ?_
      refine gn rfl rfl ?_
      refine gn rfl rfl ?_
      refine gn rfl rfl ?_
      refine gn rfl rfl ?_
      refine gn rfl rfl ?_
      refine gn rfl rfl ?_
      refine pkF (v := .bool _) rfl rfl rfl ?_
      refine mv (v := .bool _) rfl rfl ?_
      refine gn rfl rfl ?_
      refine gn rfl rfl ?_
      refine gn rfl rfl ?_
      refine gn rfl rfl ?_
      refine gn rfl rfl ?_
      refine gn rfl rfl ?_
      refine pkF (v := .bool _) rfl rfl rfl ?_
      refine nl ?_
      refine then_n ?_
      refine cbF rfl rfl ?_
      refine sk ?_
      refine then_n ?_
      exact ⟨(u, i), ⟨by omega, by omega, fix_one hu0 (fun v h => by omega), by omega, O⟩, (fCX (fCX (fN _))), agX⟩
    ·rintro ⟨r, j⟩ ρx w2 ⟨hj, hjn, hdr, hrr, O⟩
     have H := O.sh
     refine sq ?_
     refine sq ?_
     refine rg ?_
     refine mv (v := .int .i32 _) rfl rfl ?_
     refine geq rfl rfl rfl ?_
     refine mv (v := .bool _) rfl rfl ?_
     refine spd (t := 69) rfl (fun hg6 => ?_) (fun hg6 => ?_)
     ·refine gy rfl ?_
      refine mv (v := .int .i32 _) rfl rfl ?_
      refine gy rfl ?_
      refine lss rfl rfl rfl ?_
      refine pkT (v := .bool _) rfl rfl rfl ?_
      refine nl ?_
      refine then_n ?_
      refine cd rfl (fun hc3 => ?_) (fun hc3 => ?_)
      ·refine rg ?_
       refine asg (v := .int .i32 _) rfl rfl ?_
       refine nl ?_
       refine then_n ?_
       refine rg ?_
       refine mv (v := .slice _ _ _) rfl rfl ?_
       refine mv (v := .int .i32 _) rfl rfl ?_
       refine bsl (sz := 1) (out := ?o1) H Tryz.underlying152 ze21 sz21_1 (by decide) ?f1 rfl ?_
       case f1 =>
        refine FS.one (v := .int .i32 _) rfl rfl rfl (by first | decide | simp) ?_
        exact FS.nil
       intro b1 w3 hb1 H1 F; replace O := O.new F hb1 H1.look; clear H H1 F; have H := O.sh
       refine apO (zs := [.int .i32 0]) [.int .i32 65533] O rfl rfl Tryz.underlying152 ri21 (by first | rfl | simp) (cells_look H.look) (by simp [Value.oneCell']) (by simp) (by omega) (by unfold maxLen; omega) rfl ?_
       clear O H; intro D9 cp9 w4 O
       have H := O.sh
       refine asg (v := .slice _ _ _) rfl rfl ?_
       refine nl ?_
       refine in_n ?_
       refine then_n ?_
       refine rg ?_
       refine mv (v := .int .i64 _) rfl rfl ?_
       refine add rfl rfl (by first | exact w_i64 (by omega) | exact w_i64 (rng_i64 _) | rfl) rfl ?_
       refine asg (v := .int .i64 _) rfl rfl ?_
       refine nl ?_
       refine loop_n ?_
       exact ⟨(j + 1, D9, cp9, rs ++ [65533]), (by (try dsimp only); omega), ⟨by omega, by simp; omega, by rw [hd, hdr, fixR_t (by omega), List.append_assoc]; rfl, by rw [List.length_append, List.map_append]; exact O.subX⟩, (fCX (fCX (fN _))), agX⟩
      ·refine sk ?_
       refine then_n ?_
       refine rg ?_
       refine mv (v := .slice _ _ _) rfl rfl ?_
       refine mv (v := .int .i32 _) rfl rfl ?_
       refine bsl (sz := 1) (out := ?o2) H Tryz.underlying152 ze21 sz21_1 (by decide) ?f2 rfl ?_
       case f2 =>
        refine FS.one (v := .int .i32 _) rfl rfl rfl (by first | decide | simp) ?_
        exact FS.nil
       intro b2 w5 hb2 H1 F; replace O := O.new F hb2 H1.look; clear H H1 F; have H := O.sh
       refine apO (zs := [.int .i32 0]) [.int .i32 r] O rfl rfl Tryz.underlying152 ri21 (by first | rfl | simp) (cells_look H.look) (by simp [Value.oneCell']) (by simp) (by omega) (by unfold maxLen; omega) rfl ?_
       clear O H; intro D9 cp9 w6 O
       have H := O.sh
       refine asg (v := .slice _ _ _) rfl rfl ?_
       refine nl ?_
       refine in_n ?_
       refine then_n ?_
       refine rg ?_
       refine mv (v := .int .i64 _) rfl rfl ?_
       refine add rfl rfl (by first | exact w_i64 (by omega) | exact w_i64 (rng_i64 _) | rfl) rfl ?_
       refine asg (v := .int .i64 _) rfl rfl ?_
       refine nl ?_
       refine loop_n ?_
       exact ⟨(j + 1, D9, cp9, rs ++ [r]), (by (try dsimp only); omega), ⟨by omega, by simp; omega, by rw [hd, hdr, fixR_f (by omega), List.append_assoc]; rfl, by rw [List.length_append, List.map_append]; exact O.subX⟩, (fCX (fCX (fN _))), agX⟩
     ·refine gn rfl rfl ?_
      refine gn rfl rfl ?_
      refine pkF (v := .bool _) rfl rfl rfl ?_
      refine nl ?_
      refine then_n ?_
      refine cbF rfl rfl ?_
      refine sk ?_
      refine then_n ?_
      refine rg ?_
      refine mv (v := .slice _ _ _) rfl rfl ?_
      refine mv (v := .int .i32 _) rfl rfl ?_
      refine bsl (sz := 1) (out := ?o3) H Tryz.underlying152 ze21 sz21_1 (by decide) ?f3 rfl ?_
      case f3 =>
       refine FS.one (v := .int .i32 _) rfl rfl rfl (by first | decide | simp) ?_
       exact FS.nil
      intro b3 w7 hb3 H1 F; replace O := O.new F hb3 H1.look; clear H H1 F; have H := O.sh
      refine apO (zs := [.int .i32 0]) [.int .i32 r] O rfl rfl Tryz.underlying152 ri21 (by first | rfl | simp) (cells_look H.look) (by simp [Value.oneCell']) (by simp) (by omega) (by unfold maxLen; omega) rfl ?_
      clear O H; intro D9 cp9 w8 O
      have H := O.sh
      refine asg (v := .slice _ _ _) rfl rfl ?_
      refine nl ?_
      refine in_n ?_
      refine then_n ?_
      refine rg ?_
      refine mv (v := .int .i64 _) rfl rfl ?_
      refine add rfl rfl (by first | exact w_i64 (by omega) | exact w_i64 (rng_i64 _) | rfl) rfl ?_
      refine asg (v := .int .i64 _) rfl rfl ?_
      refine nl ?_
      refine loop_n ?_
      exact ⟨(j + 1, D9, cp9, rs ++ [r]), (by (try dsimp only); omega), ⟨by omega, by simp; omega, by rw [hd, hdr, fixR_f (by omega), List.append_assoc]; rfl, by rw [List.length_append, List.map_append]; exact O.subX⟩, (fCX (fCX (fN _))), agX⟩
   ·have hts := tw_stop hi (by rw [hu]; congr 1; omega)
    refine ex ?_
    refine then_e ?_
    refine loop_e ?_
    refine in_hit rfl ?_
    refine then_n ?_
    refine sq ?_
    refine rg ?_
    refine mv (v := .slice _ _ _) rfl rfl ?_
    refine cvRO O rfl Tryz.underlying152 Tryz.underlying21 Tryz.underlying9 rfl ?_
    refine asg (v := .string _) rfl rfl ?_
    refine nl ?_
    refine then_n ?_
    refine rt ?_
    refine fin_r ?_
    have e : dec16 (upto0 us) = rs := by rw [hd, List.drop_of_length_le (by omega)]; simp [dec16]
    rw [e]
    exact ⟨rfl, H.fr⟩
  ·have hts : (upto0 us).length = i := by omega
   refine gn rfl rfl ?_
   refine gn rfl rfl ?_
   refine gn rfl rfl ?_
   refine gn rfl rfl ?_
   refine gn rfl rfl ?_
   refine pkF (v := .bool _) rfl rfl rfl ?_
   refine nl ?_
   refine then_n ?_
   refine cbF rfl rfl ?_
   refine ex ?_
   refine then_e ?_
   refine loop_e ?_
   refine in_hit rfl ?_
   refine then_n ?_
   refine sq ?_
   refine rg ?_
   refine mv (v := .slice _ _ _) rfl rfl ?_
   refine cvRO O rfl Tryz.underlying152 Tryz.underlying21 Tryz.underlying9 rfl ?_
   refine asg (v := .string _) rfl rfl ?_
   refine nl ?_
   refine then_n ?_
   refine rt ?_
   refine fin_r ?_
   have e : dec16 (upto0 us) = rs := by rw [hd, List.drop_of_length_le (by omega)]; simp [dec16]
   rw [e]
   exact ⟨rfl, H.fr⟩
end Go.Proofs.YthcaejaaalkglaaGreatDoor.X
/- Bytes appended to an empty row: the new block, with its zeros. -/
namespace Go.Proofs.YthcaejaaalkglaaGreatDoor.X
set_option linter.unusedVariables false
open Go Go.RowKit
variable {P : Program} {n : Nat} {ops : Array Oper} {Q : Post} {rest : List Oper} {ρ : Env} {w : World} {ty : TypeId} {pos : String} {af : Array Edge} {d : Nat}
theorem Bs_zeros (k : Nat) : (Builtin.zeroCells #[.int .u8 0] k).toList = Bs (List.replicate k 0) := by
 rw [show Bs (List.replicate k 0) = List.replicate k (Value.int .u8 0) by simp [Bs, u8v]]
 rw [List.eq_replicate_iff]
 refine ⟨by simp [Builtin.zeroCells], fun b hb => ?_⟩
 simp [Builtin.zeroCells] at hb
 obtain ⟨i, _, rfl⟩ := hb
 rw [show i % 1 = 0 by omega]; rfl
theorem apZ {t e : TypeId} {w0 : World} {S : List Nat} {L : List Ent} {b m c : Nat} {X : Option Addr} {bs : List UInt8} {s x : Operand} (H : SH w0 S w L)
  (hs : ev ρ s = .slice (some ⟨b, 0, none⟩) 0 0) (hx : ev ρ x = .slice X m c) (hR : RB w X m bs) (hu : P.underlying t = some (.slice e)) (hi : rowInfo P e = some ([.int .u8 0], 1)) (hm : 0 < m ∧ m ≤ 100000000) (hn : Nat.blt d n = true)
  (kk : ∀ q cap' w', w.heap.size ≤ q → m ≤ cap' → cap' ≤ maxLen → Fr [] w w' → SH w0 S w' (⟨q, .cells (Bs (bs ++ List.replicate (cap' - m) 0)).toArray e (0, 0), true⟩ :: L) → wl P n ops Q rest (upd ρ d (.slice (some ⟨q, 0, none⟩) m cap')) w') : wl P n ops Q (⟨some d, .call { callee := .builtin .append, args := #[s, x], argTypes := #[t, t] }, ty, pos, af, none⟩ :: rest) ρ w := by
 obtain ⟨i, z, hinf, hz, hzc, hsz, hby, hpos⟩ := rowInfo_some hi
 have hl := hR.1
 obtain ⟨ad, rfl, _⟩ : ∃ ad, X = some ad ∧ True := by
  obtain ⟨ad, h, _⟩ := RB.cells hR 0 (.int .u8 ((bs.getD 0 0).toNat : Int)) (by rw [Bs_get (by omega)])
  exact ⟨ad, h, trivial⟩
 have hnews : ∀ j u, (Bs bs)[j]? = some u → w.cell? (ad.add j) = some u := fun j u hu => by
  obtain ⟨ad', h1, h2⟩ := RB.cells hR j u hu
  obtain rfl := Option.some.inj h1
  exact h2
 have hsz1 : i.size = 1 := hsz
 have hmax : 0 + m ≤ maxLen := by unfold maxLen; omega
 have hge := grownCap_ge w (0 + m) 0 e
 have hcm : grownCap w (0 + m) 0 e ≤ maxLen := grownCap_le_maxLen w (0 + m) 0 e hmax
 have hr := run_append_grow (P := P) w t ty e i z hu hinf hz ⟨b, 0, none⟩ 0 0 [] (by rw [hsz1]; rfl) (fun j u h => by simp at h) ad m c (Bs bs) (by rw [hsz1, Bs_length, hl]; omega) hnews (by omega) (by unfold maxLen at hmax; omega) (by rw [hby]; exact growslice_fits (by omega) (by omega))
 have hf : Fr [] w (w.drew.alloc (.cells (([] : List Value).toArray ++ (Bs bs).toArray ++ Builtin.zeroCells z.cells (grownCap w (0 + m) 0 e - (0 + m))) e)) := (Fr.drew [] w).trans (Fr.alloc w.drew _)
 have hnew := H.new (o := .cells (([] : List Value).toArray ++ (Bs bs).toArray ++ Builtin.zeroCells z.cells (grownCap w (0 + m) 0 e - (0 + m))) e) hf (Nat.le_refl _) (heap_alloc_new w.drew _)
 have e1 : ([] : List Value).toArray ++ (Bs bs).toArray ++ Builtin.zeroCells z.cells (grownCap w (0 + m) 0 e - (0 + m)) = (Bs (bs ++ List.replicate (grownCap w (0 + m) 0 e - m) 0)).toArray := by
  apply Array.ext'
  rw [hzc]
  have e2 : Bs (bs ++ List.replicate (grownCap w (0 + m) 0 e - m) 0) = Bs bs ++ Bs (List.replicate (grownCap w (0 + m) 0 e - m) 0) := List.map_append ..
  rw [e2]
  simp only [Array.toList_append, List.nil_append, Bs_zeros, Nat.zero_add]
 rw [e1] at hr hf hnew
 rw [Nat.zero_add] at *
 exact val rfl rfl hn (by simp [execOp, resolve, invoke, builtin, hs, hx, hr]) (kk _ _ _ (Nat.le_refl _) hge hcm hf hnew)
end Go.Proofs.YthcaejaaalkglaaGreatDoor.X
/- A header and its array, as the specification looks at them. -/
namespace Go.Proofs.YthcaejaaalkglaaGreatDoor.X
set_option linter.unusedVariables false
open Go Go.RowKit
def gatB (bs : List UInt8) (n a : Nat) : Bool :=
 sigOk bs (a * 512) && (decide (fld bs (a * 512 + 12) 4 = 92) && (crcOk bs (a * 512) && (decide (fld bs (a * 512 + 24) 8 = (a : Int)) && (decide (fld bs (a * 512 + 84) 4 = 128) && (decide (fld bs (a * 512 + 80) 4 = 128) &&
  (decide (fld bs (a * 512 + 72) 8 < (n : Int)) && (decide (32 ≤ (n : Int) - fld bs (a * 512 + 72) 8) && decide (crc32 (pcs bs ((fld bs (a * 512 + 72) 8).toNat * 512) 16384) = fld bs (a * 512 + 88) 4))))))))
theorem leH {bs J : List UInt8} {A o k : Nat} (hA : A + 92 ≤ bs.length) (h : o + k ≤ 92) : leV (((pcs bs A 92 ++ J).drop o).take k) = fld bs (A + o) k := by
 have hl : (pcs bs A 92).length = 92 := pcs_len (by omega)
 unfold fld
 rw [List.drop_append_of_le_length (by omega), List.take_append_of_le_length (by rw [List.length_drop]; omega)]
 exact congrArg leV (pcs_pcs h)
theorem leF {bs J : List UInt8} {A o k : Nat} (hA : A + 92 ≤ bs.length) (h : o + k ≤ 92) (h2 : o + k ≤ 16 ∨ 20 ≤ o) : leV (((zHdr (pcs bs A 92) ++ J).drop o).take k) = fld bs (A + o) k := by
 have hl : (pcs bs A 92).length = 92 := pcs_len (by omega)
 have hz := zHdr_len hl
 unfold fld
 rw [List.drop_append_of_le_length (by omega), List.take_append_of_le_length (by rw [List.length_drop]; omega), ← pcs_pcs h]
 refine congrArg leV ?_
 show pcs (zHdr (pcs bs A 92)) o k = _
 unfold zHdr
 rcases h2 with h2 | h2
 ·exact pcs_lo (by rw [hl]; decide) h2
 ·exact pcs_hi (by rw [hl]; decide) h2
theorem sigF {bs J : List UInt8} {A : Nat} (hA : A + 92 ≤ bs.length) : ((zHdr (pcs bs A 92) ++ J).drop 0).take 8 = pcs bs A 8 := by
 have hl : (pcs bs A 92).length = 92 := pcs_len (by omega)
 have hz := zHdr_len hl
 rw [List.drop_zero, List.take_append_of_le_length (by omega)]
 have e : pcs (zHdr (pcs bs A 92)) 0 8 = pcs (pcs bs A 92) 0 8 := by unfold zHdr; exact pcs_lo (by rw [hl]; decide) (by decide)
 have e2 : pcs (pcs bs A 92) 0 8 = pcs bs (A + 0) 8 := pcs_pcs (by decide)
 rw [Nat.add_zero] at e2
 rw [← e2, ← e]; simp [pcs]
theorem guF {bs J : List UInt8} {A : Nat} (hA : A + 92 ≤ bs.length) : ((zHdr (pcs bs A 92) ++ J).drop 56).take 16 = pcs bs (A + 56) 16 := by
 have hl : (pcs bs A 92).length = 92 := pcs_len (by omega)
 have hz := zHdr_len hl
 rw [List.drop_append_of_le_length (by omega), List.take_append_of_le_length (by rw [List.length_drop]; omega)]
 have e : pcs (zHdr (pcs bs A 92)) 56 16 = pcs (pcs bs A 92) 56 16 := by unfold zHdr; exact pcs_hi (by rw [hl]; decide) (by decide)
 have e2 : pcs (pcs bs A 92) 56 16 = pcs bs (A + 56) 16 := pcs_pcs (by decide)
 rw [← e2, ← e]; simp [pcs]
theorem leE {bs : List UInt8} {R i o k : Nat} (h : o + k ≤ 128) (hi : i < 128) : leV ((bs.drop (R + (128 * i + o))).take k) = fld (entA (pcs bs R 16384) i) o k := by
 unfold fld entA
 rw [pcs_pcs (ds := pcs bs R 16384) h, pcs_pcs (by omega)]
 rfl
theorem gtE {bs : List UInt8} {R i o k : Nat} (h : o + k ≤ 128) (hi : i < 128) : pcs bs (R + (128 * i + o)) k = pcs (entA (pcs bs R 16384) i) o k := by
 unfold entA
 rw [pcs_pcs (ds := pcs bs R 16384) h, pcs_pcs (by omega)]
theorem putZ {bs J : List UInt8} {A : Nat} (hA : A + 92 ≤ bs.length) : pAt (pcs bs A 92 ++ J) 16 (leB 4 0) = zHdr (pcs bs A 92) ++ J := by
 have hl : (pcs bs A 92).length = 92 := pcs_len (by omega)
 rw [show leB 4 0 = [0, 0, 0, 0] by decide]
 exact pAt_appW (by rw [hl]; decide)
theorem usedP_t {ar : List UInt8} {i : Nat} (h : freeE (entA ar i) = true) : usedP ar (i + 1) = usedP ar i := by
 unfold usedP
 rw [List.range_succ, List.filterMap_append]
 simp [useP, h]
theorem usedP_f {ar : List UInt8} {i : Nat} (h : freeE (entA ar i) = false) : usedP ar (i + 1) = usedP ar i ++ [gpE ((i : Int) + 1) (entA ar i)] := by
 unfold usedP
 rw [List.range_succ, List.filterMap_append]
 simp [useP, h]
theorem usedP_le (ar : List UInt8) (i : Nat) : (usedP ar i).length ≤ i := by
 have := List.length_filterMap_le (useP ar) (List.range i)
 rw [List.length_range] at this
 exact this
theorem nmB_up (e : List UInt8) : encL (dec16 (upto0 (unE e))) = nmB e := rfl
theorem unE_rng (e : List UInt8) : ∀ u ∈ unE e, 0 ≤ u ∧ u ≤ 65535 := by
 intro u hu
 unfold unE at hu
 obtain ⟨j, _, rfl⟩ := List.mem_map.1 hu
 exact fld_rng2
theorem entA_len {bs : List UInt8} {R i : Nat} (h : R + 16384 ≤ bs.length) (hi : i < 128) : (entA (pcs bs R 16384) i).length = 128 := pcs_len (by rw [pcs_len h]; omega)
def GatIs (bs : List UInt8) (n a : Nat) (D : Option Addr) (m cap : Nat) (s : Int) (g : List UInt8) (X : List Value) : Prop :=
 (gatB bs n a = true → ∃ k : Nat, fld bs (a * 512 + 72) 8 = (k : Int) ∧ k * 512 + 16384 ≤ n * 512 ∧ m = (usedP (pcs bs (k * 512) 16384) 128).length ∧ X = (usedP (pcs bs (k * 512) 16384) 128).flatMap GP.cells ∧ s = 512 ∧ g = gT (pcs bs (a * 512 + 56) 16)) ∧
 (gatB bs n a = false → D = none ∧ m = 0 ∧ cap = 0 ∧ s = 0 ∧ g = [])
theorem gat_is {e : TypeId} {w w' : World} {v1 : Value} {bs : List UInt8} {n a : Nat}
  (r1 : gatB bs n a = true → ∃ (k : Nat) (D : Option Addr) (cap : Nat), fld bs (a * 512 + 72) 8 = (k : Int) ∧ k * 512 + 16384 ≤ n * 512 ∧ v1 = .agg (gtCells D (usedP (pcs bs (k * 512) 16384) 128).length cap 512 (gT (pcs bs (a * 512 + 56) 16)) false false).toArray ∧ OR e 8 w [] w' [] D (usedP (pcs bs (k * 512) 16384) 128).length cap ((usedP (pcs bs (k * 512) 16384) 128).flatMap GP.cells))
  (r2 : gatB bs n a = false → v1 = .agg (gtCells none 0 0 0 [] false false).toArray) (F : Fr [] w w') :
  ∃ D m cap s g X, v1 = .agg (gtCells D m cap s g false false).toArray ∧ OR e 8 w [] w' [] D m cap X ∧ GatIs bs n a D m cap s g X := by
 cases h : gatB bs n a with
 | true =>
  obtain ⟨k, D, cap, h1, h2, h3, O⟩ := r1 h
  exact ⟨D, _, cap, _, _, _, h3, O, fun _ => ⟨k, h1, h2, rfl, rfl, rfl, rfl⟩, fun h' => by rw [h] at h'; cases h'⟩
 | false => exact ⟨none, 0, 0, 0, [], [], r2 h, OR.nil ((SH.nil w).keep F), fun h' => (by rw [h] at h'; cases h'), fun _ => ⟨rfl, rfl, rfl, rfl, rfl⟩⟩
theorem gT_zero {x : List UInt8} (h : x.length = 16) : gT x = zG ↔ x = List.replicate 16 0 := by
 constructor
 ·intro e
  have e1 := gB_gT h
  rw [e, gB_zG] at e1
  exact e1.symm
 ·rintro rfl
  decide +kernel
end Go.Proofs.YthcaejaaalkglaaGreatDoor.X
/- Rows of entries: what came in, what is kept. -/
namespace Go.Proofs.YthcaejaaalkglaaGreatDoor.X
open Go
set_option linter.unusedVariables false
structure RM (w : World) (A : Option Addr) (m c : Nat) (qs : List MP) : Prop where
 len : qs.length = m
 cap : m ≤ c ∧ c ≤ maxLen
 nil : A = none → m = 0
 at' : ∀ j u, (qs.flatMap MP.cells)[j]? = some u → ∃ ad, A = some ad ∧ w.cell? (ad.add j) = some u
 ok : ∀ q ∈ qs, q.ok
theorem flat_index {qs : List MP} : ∀ (j : Nat) (u : Value), (qs.flatMap MP.cells)[j]? = some u → ∃ q, qs[j / 11]? = some q ∧ q.cells[j % 11]? = some u := by
 induction qs with
 | nil => intro j u h; simp at h
 | cons q l ih =>
  intro j u h
  simp only [List.flatMap_cons] at h
  by_cases hj : j < 11
  ·rw [List.getElem?_append_left (by rw [MP.cells_len]; exact hj)] at h
   rw [Nat.div_eq_of_lt hj, Nat.mod_eq_of_lt hj]
   exact ⟨q, rfl, h⟩
  ·rw [List.getElem?_append_right (by rw [MP.cells_len]; omega), MP.cells_len] at h
   obtain ⟨q', h1, h2⟩ := ih _ _ h
   refine ⟨q', ?_, ?_⟩
   ·rw [show j / 11 = (j - 11) / 11 + 1 by omega]; simpa using h1
   ·rw [show j % 11 = (j - 11) % 11 by omega]; exact h2
theorem RM.of {w : World} {v : Value} (h : Is w (.row 11 shpMP) [v]) : ∃ A m c qs, v = .slice A m c ∧ RM w A m c qs := by
 simp only [Is] at h
 rcases h with h | ⟨a, len, cap, h, hl, hc, hel⟩
 ·simp at h
  exact ⟨none, 0, 0, [], h, rfl, ⟨Nat.le_refl _, by decide⟩, fun _ => rfl, by simp, by simp⟩
 ·simp at h
  have key : ∀ n, n ≤ len → ∃ qs : List MP, qs.length = n ∧ (∀ i q, qs[i]? = some q → q.ok ∧ ∀ j u, q.cells[j]? = some u → w.cell? ((a.add (i * 11)).add j) = some u) := by
   intro n
   induction n with
   | zero => intro _; exact ⟨[], rfl, by simp⟩
   | succ n ih =>
    intro hn
    obtain ⟨qs, h1, h2⟩ := ih (by omega)
    obtain ⟨es, he1, he2, he3⟩ := hel n (by omega)
    obtain ⟨q, rfl, hq⟩ := mp_of he3
    refine ⟨qs ++ [q], by simp [h1], fun i q' hi => ?_⟩
    by_cases hin : i < qs.length
    ·rw [List.getElem?_append_left hin] at hi; exact h2 i q' hi
    ·rw [List.getElem?_append_right (by omega)] at hi
     have hi0 : i - qs.length = 0 := by
      have := (List.getElem?_eq_some_iff.1 hi).1
      simp at this; omega
     rw [hi0] at hi
     simp at hi
     subst hi
     obtain rfl : i = n := by omega
     exact ⟨hq, he2⟩
  obtain ⟨qs, h1, h2⟩ := key len (Nat.le_refl _)
  refine ⟨some a, len, cap, qs, h, h1, ⟨hl, hc⟩, fun h => (by cases h), fun j u hu => ⟨a, rfl, ?_⟩, fun q hq => ?_⟩
  ·obtain ⟨q, hq, hqu⟩ := flat_index j u hu
   have := (h2 _ _ hq).2 _ _ hqu
   rw [Addr.add_add] at this
   rwa [show j / 11 * 11 + j % 11 = j by omega] at this
  ·obtain ⟨i, hi, hq'⟩ := List.getElem_of_mem hq
   exact (h2 i q (by rw [List.getElem?_eq_getElem hi, hq'])).1
theorem mp_one {qs : List MP} : ∀ u ∈ qs.flatMap MP.cells, u.oneCell' = true := by
 intro u hu
 obtain ⟨q, _, hq⟩ := List.mem_flatMap.1 hu
 simp [MP.cells] at hq
 rcases hq with h | h | h | h | h | h | h | h | h | h | h <;> subst h <;> rfl
theorem flat_split {xs : List MP} {i : Nat} {x : MP} (h : xs[i]? = some x) : xs.flatMap MP.cells = (xs.take i).flatMap MP.cells ++ x.cells ++ (xs.drop (i + 1)).flatMap MP.cells := by
 have hi := (List.getElem?_eq_some_iff.1 h).1
 have hx : xs[i] = x := (List.getElem?_eq_some_iff.1 h).2
 have e : xs = xs.take i ++ [x] ++ xs.drop (i + 1) := by
  rw [← hx, List.append_assoc, List.singleton_append, ← List.drop_eq_getElem_cons hi, List.take_append_drop]
 conv => lhs; rw [e]
 simp
theorem flat_put {xs : List MP} {junk : List Value} {i : Nat} {x p : MP} (h : xs[i]? = some x) : (xs.flatMap MP.cells ++ junk).take (i * 11) ++ p.cells ++ (xs.flatMap MP.cells ++ junk).drop (i * 11 + 11) = (xs.set i p).flatMap MP.cells ++ junk := by
 have hi := (List.getElem?_eq_some_iff.1 h).1
 have hl : ((xs.take i).flatMap MP.cells).length = i * 11 := by rw [flat_len MP.cells_len]; simp; omega
 have h2 : (xs.set i p)[i]? = some p := by simp [hi]
 rw [flat_split h, flat_split h2]
 have e1 : (xs.set i p).take i = xs.take i := by rw [List.take_set_of_le (Nat.le_refl _)]
 have e2 : (xs.set i p).drop (i + 1) = xs.drop (i + 1) := by rw [List.drop_set_of_lt (by omega)]
 rw [e1, e2]
 simp only [List.append_assoc]
 rw [List.take_append_of_le_length (by omega), List.take_of_length_le (by omega)]
 congr 2
 rw [List.drop_append, hl, List.drop_of_length_le (by omega), List.nil_append, show i * 11 + 11 - i * 11 = 11 by omega, List.drop_append, MP.cells_len, List.drop_of_length_le (by rw [MP.cells_len]; omega)]
 simp
theorem flat_put0 {xs : List MP} {i : Nat} {x p : MP} (h : xs[i]? = some x) : (xs.flatMap MP.cells).take (i * 11) ++ p.cells ++ (xs.flatMap MP.cells).drop (i * 11 + 11) = (xs.set i p).flatMap MP.cells := by
 have := flat_put (junk := []) (p := p) h
 simpa using this
def arr4 (xs : List MP) (i : Nat) : List MP := xs.take i ++ List.replicate (4 - i) MP.zero
theorem arr4_len {xs : List MP} {i : Nat} (h : i ≤ xs.length) (h4 : i ≤ 4) : (arr4 xs i).length = 4 := by unfold arr4; simp; omega
theorem arr4_get {xs : List MP} {i : Nat} (h : i ≤ xs.length) (h4 : i < 4) : (arr4 xs i)[i]? = some MP.zero := by
 unfold arr4
 have hl : (xs.take i).length = i := by simp; omega
 rw [List.getElem?_append_right (by omega), hl, Nat.sub_self, List.getElem?_replicate, if_pos (by omega)]
theorem arr4_step {xs : List MP} {i : Nat} {p : MP} (h : i < xs.length) (h4 : i < 4) : (arr4 xs i).set i p = arr4 (xs.set i p) (i + 1) := by
 unfold arr4
 have e1 : (xs.set i p).take (i + 1) = xs.take i ++ [p] := by
  rw [List.take_add_one, List.take_set_of_le (Nat.le_refl _)]
  simp [h]
 have e2 : List.replicate (4 - i) MP.zero = MP.zero :: List.replicate (4 - (i + 1)) MP.zero := by
  rw [show 4 - i = (4 - (i + 1)) + 1 by omega, List.replicate_succ]
 have hl : (xs.take i).length = i := by simp; omega
 rw [e1, e2, List.set_append_right _ _ (by omega), hl, Nat.sub_self]
 simp
end Go.Proofs.YthcaejaaalkglaaGreatDoor.X
/- A table of a master boot record in memory, and as plain data. -/
namespace Go.Proofs.YthcaejaaalkglaaGreatDoor.X
set_option linter.unusedVariables false
open Go Go.RowKit
def mpAt (cur : List UInt8) (o k : Nat) : MP :=
 ⟨k, decide (((cur.getD (o + 0) 0).toNat : Int) = 128), (cur.getD (o + 4) 0).toNat, leV ((cur.drop (o + 8)).take 4), leV ((cur.drop (o + 12)).take 4), (cur.getD (o + 3) 0).toNat, (cur.getD (o + 1) 0).toNat, (cur.getD (o + 2) 0).toNat, (cur.getD (o + 7) 0).toNat, (cur.getD (o + 5) 0).toNat, (cur.getD (o + 6) 0).toNat⟩
def mpsOf (cur : List UInt8) : List MP := [mpAt cur 446 1, mpAt cur 462 2, mpAt cur 478 3, mpAt cur 494 4]
theorem mpsOf_get {cur : List UInt8} {i : Nat} (h : i < 4) : (mpsOf cur)[i]? = some (mpAt cur (446 + 16 * i) (i + 1)) := by
 match i, h with
 | 0, _ => rfl
 | 1, _ => rfl
 | 2, _ => rfl
 | 3, _ => rfl
def sigB (cur : List UInt8) : Bool := decide ((cur.drop 510).take 2 = [85, 170])
def flagsB (cur : List UInt8) : Prop := ∀ i, i < 4 → ((cur.getD (446 + 16 * i) 0).toNat : Int) = 0 ∨ ((cur.getD (446 + 16 * i) 0).toNat : Int) = 128
def ptCells (q : MP) (u : List UInt8) : List Value := q.cells ++ [.int .i64 512, .int .i64 512, .string (str u)]
def rowOk (cur : List UInt8) (l : PL) : Prop := ∀ i x, l[i]? = some x → ∃ u, x.2 = ptCells (mpAt cur (446 + 16 * i) (i + 1)) u
def MadeTab (TT TP PT : TypeId) (w w' : World) (cur : List UInt8) (v : Value) : Prop :=
 ∃ (t r cap : Nat) (junk : List Value) (l : PL) (uu : List UInt8), v = .pointer (some ⟨t, 0, none⟩) ∧ l.length = 4 ∧ rowOk cur l ∧
  SH w [] w' (⟨t, .cells [.slice (some ⟨r, 0, none⟩) 4 cap, .int .i64 512, .int .i64 512, .string (str uu)].toArray TT (0, 0), true⟩ :: ⟨r, .cells (ptrs l ++ junk).toArray TP (0, 0), true⟩ :: ents PT l)
theorem sig_at {ds : List UInt8} (h : 512 ≤ ds.length) : sigB ds = decide ((((ds.getD 510 0).toNat : Int) = 85) ∧ (((ds.getD 511 0).toNat : Int) = 170)) := by
 unfold sigB
 have e : (ds.drop 510).take 2 = [ds.getD 510 0, ds.getD 511 0] := by
  apply List.ext_getElem?
  intro i
  rw [List.getElem?_take]
  match i with
  | 0 => simp [List.getD_eq_getElem?_getD, show 510 < ds.length by omega]
  | 1 => simp [List.getD_eq_getElem?_getD, show 511 < ds.length by omega]
  | i + 2 => simp; omega
 rw [e]
 refine decide_eq_decide.2 ?_
 simp only [List.cons.injEq, and_true]
 have h1 : ∀ (u : UInt8) (k : Nat), k < 256 → (u = UInt8.ofNat k ↔ (u.toNat : Int) = k) := fun u k hk => by
  constructor
  ·rintro rfl; simp; omega
  ·intro h; apply UInt8.toNat.inj; simp; omega
 have a := h1 (ds.getD 510 0) 85 (by decide)
 have b := h1 (ds.getD 511 0) 170 (by decide)
 exact and_congr a b
theorem RM.elem {w : World} {ad : Addr} {m c i : Nat} {qs : List MP} {q : MP} (h : RM w (some ad) m c qs) (hq : qs[i]? = some q) : ∀ j v, q.cells[j]? = some v → w.cell? ((ad.add (i * 11)).add j) = some v := by
 intro j v hv
 have hg := flat_get MP.cells_len qs i q hq
 have hj : j < 11 := by have := (List.getElem?_eq_some_iff.1 hv).1; rwa [MP.cells_len] at this
 have e : (qs.flatMap MP.cells)[i * 11 + j]? = some v := by
  rw [← hv, ← hg, List.getElem?_take, if_pos hj, List.getElem?_drop]
 obtain ⟨ad', he, hc⟩ := h.at' _ v e
 obtain rfl := Option.some.inj he
 rw [Addr.add_add]; exact hc
theorem RM.keep {w w' : World} {A : Option Addr} {m c : Nat} {qs : List MP} (h : RM w A m c qs) (f : Fr [] w w') : RM w' A m c qs :=
 ⟨h.len, h.cap, h.nil, fun j u hu => let ⟨ad, e, hc⟩ := h.at' j u hu; ⟨ad, e, f.cell hc (by simp)⟩, h.ok⟩
end Go.Proofs.YthcaejaaalkglaaGreatDoor.X
/- A table that is written. -/
namespace Go.Proofs.YthcaejaaalkglaaGreatDoor.X
set_option linter.unusedVariables false
open Go Go.RowKit
def entCells (q : MP) : List Value := q.cells ++ [.int .i64 0, .int .i64 0, .string (str [])]
def rowQ (qs : List MP) (l : PL) : Prop := ∀ (i : Nat) (x : Nat × List Value), l[i]? = some x → ∃ q, qs[i]? = some q ∧ x.2 = entCells q
structure TabAt (TT PT : TypeId) (w : World) (t : Nat) (A : Option Addr) (k cap : Nat) (l : PL) (qs : List MP) : Prop where
 tab : w.heap[t]? = some (.cells [.slice A k cap, .int .i64 512, .int .i64 512, .string (str [])].toArray TT (0, 0))
 len : l.length = k ∧ qs.length = k
 row : ∀ (i : Nat) (x : Nat × List Value), l[i]? = some x → ∃ ad, A = some ad ∧ w.cell? (ad.add i) = some (.pointer (some ⟨x.1, 0, none⟩))
 blk : ∀ (i : Nat) (x : Nat × List Value), l[i]? = some x → w.heap[x.1]? = some (.cells x.2.toArray PT (0, 0))
 q : rowQ qs l
theorem TabAt.keep {TT PT : TypeId} {w w' : World} {t : Nat} {A : Option Addr} {k cap : Nat} {l : PL} {qs : List MP} (h : TabAt TT PT w t A k cap l qs) (f : Fr [] w w') : TabAt TT PT w' t A k cap l qs :=
 ⟨f.at h.tab (by simp), h.len, fun i x hx => let ⟨ad, e, hc⟩ := h.row i x hx; ⟨ad, e, f.cell hc (by simp)⟩, fun i x hx => f.at (h.blk i x hx) (by simp), h.q⟩
theorem TabAt.now {TT PT : TypeId} {w w' : World} {t : Nat} {A : Option Addr} {k cap : Nat} {l : PL} {qs : List MP} {S : List Nat} (h : TabAt TT PT w t A k cap l qs) (f : Fr S w w') (ht : t ∉ S) (hA : ∀ ad, A = some ad → ad.block ∉ S) (hl : ∀ (i : Nat) (x : Nat × List Value), l[i]? = some x → x.1 ∉ S) : TabAt TT PT w' t A k cap l qs :=
 ⟨f.at h.tab ht, h.len, fun i x hx => let ⟨ad, e, hc⟩ := h.row i x hx; ⟨ad, e, f.cell hc (by rw [addr_mul]; exact hA ad e)⟩, fun i x hx => f.at (h.blk i x hx) (hl i x hx), h.q⟩
theorem le4_rng (l : List UInt8) : 0 ≤ leV (l.take 4) ∧ leV (l.take 4) ≤ 4294967295 := by
 have h := leV_rng (l.take 4)
 have h2 : ((256 ^ (l.take 4).length : Nat) : Int) ≤ ((256 ^ 4 : Nat) : Int) := Int.ofNat_le.2 (Nat.pow_le_pow_right (by decide) (by simp; omega))
 rw [Int.natCast_pow, Int.natCast_pow, show ((256 : Nat) : Int) = 256 from rfl] at h2
 have h3 : (256 : Int) ^ 4 = 4294967296 := by decide
 omega
theorem set_same {α : Type} {xs : List α} {i : Nat} {p : α} (h : xs[i]? = some p) : xs.set i p = xs := by
 apply List.ext_getElem?
 intro j
 rw [List.getElem?_set]
 split
 ·rename_i e; subst e
  split
  ·exact h.symm
  ·rename_i hl; exact (List.getElem?_eq_none (by omega)).symm
 ·rfl
theorem arr4_put {xs : List MP} {i : Nat} {p : MP} (h : xs[i]? = some p) (h4 : i < 4) : ((arr4 xs i).flatMap MP.cells).take (i * 11) ++ p.cells ++ ((arr4 xs i).flatMap MP.cells).drop (i * 11 + 11) = (arr4 xs (i + 1)).flatMap MP.cells := by
 have hi := (List.getElem?_eq_some_iff.1 h).1
 have e := arr4_step (xs := xs) (p := p) hi h4
 rw [set_same h] at e
 rw [← e]
 exact flat_put0 (arr4_get (by omega) h4)
theorem RM.own {w : World} {b cap : Nat} {xs : List MP} {junk : List Value} {T : TypeId} {fr : Nat × Nat} (h : w.heap[b]? = some (.cells (xs.flatMap MP.cells ++ junk).toArray T fr)) (hc : xs.length ≤ cap ∧ cap ≤ maxLen) (ok : ∀ x ∈ xs, x.ok) : RM w (some ⟨b, 0, none⟩) xs.length cap xs :=
 ⟨rfl, hc, fun h => (by cases h), fun j u hu => ⟨_, rfl, by
  rw [Addr.add_lit, cell_at h, Nat.zero_add, List.getElem?_append_left (List.getElem?_eq_some_iff.1 hu).1]; exact hu⟩, ok⟩
end Go.Proofs.YthcaejaaalkglaaGreatDoor.X
/- Walks of functions, printed by a program of this claim. -/
namespace Go.Proofs.YthcaejaaalkglaaGreatDoor.X
set_option linter.unusedVariables false
set_option linter.unusedSimpArgs false
open Go Go.RowKit
namespace PF
theorem ca58 : callable Tryz.prog 58 = true := by kernel_rfl
theorem ca59 : callable Tryz.prog 59 = true := by kernel_rfl
theorem ca60 : callable Tryz.prog 60 = true := by kernel_rfl
end PF
open PF
set_option maxRecDepth 100000 in
set_option maxHeartbeats 1000000 in
theorem c_le (w : World) (b o n c : Nat) (T : TypeId) (fr : Nat × Nat) (cur : List UInt8) (hb : w.heap[b]? = some (.cells (Bs cur).toArray T fr)) (ho : o + n ≤ cur.length) (hn : n ≤ 8) : Calls Tryz.prog 58 #[.slice (some ⟨b, o, none⟩) n c] w (Ret fun v w' => v = .int .u64 (leV ((cur.drop o).take n)) ∧ Fr [] w w') := by
 refine enter (fun ρ => ρ 2) Tryz.func58 rfl rfl rfl (res1 rfl) ?_
 have H := SH.ro1 hb
 refine sq ?_
 refine rg ?_
 refine asg (v := .int .u64 _) rfl rfl ?_
 refine nl ?_
 refine then_n ?_
 refine sq ?_
 refine rg ?_
 refine asg (v := .int .u64 _) rfl rfl ?_
 refine nl ?_
 refine then_n ?_
 refine sq ?_
 refine sq ?_
 refine rg ?_
 refine mv (v := .slice _ _ _) rfl rfl ?_
 refine lnS rfl Tryz.underlying30 rfl ?_
 refine sub rfl rfl (by first | exact w_i64 (by omega) | exact w_i64 (rng_i64 _) | rfl) rfl ?_
 refine asg (v := .int .i64 _) rfl rfl ?_
 refine nl ?_
 refine then_n ?_
 refine bk ?_
 refine lpM (α := Nat × Int) [3, 4, 8, 9, 10, 11, 12, 13, 14, 15, 16, 17, 18, 19] (fun (i, y) => [(3, .int .u64 y), (4, .int .i64 ((i : Int) - 1))]) (fun (i, y) w' => i ≤ n ∧ y = leV (((cur.drop o).take n).drop i) ∧ SH w [] w' [⟨b, .cells (Bs cur).toArray T fr, false⟩]) (fun (i, y) => i) (n, 0) ?_ (fCX (fCX (fN _))) ?_
 ·exact ⟨by omega, by rw [List.drop_of_length_le (by simp; omega)]; rfl, H⟩
 ·rintro ⟨i, y⟩ ρx w1 ⟨hi, hy, H⟩
  refine sq ?_
  refine sq ?_
  refine rg ?_
  refine mv (v := .int .i64 _) rfl rfl ?_
  refine geq rfl rfl rfl ?_
  refine nl ?_
  refine then_n ?_
  refine cd rfl (fun hc1 => ?_) (fun hc1 => ?_)
  ·have hl7 : (((cur.drop o).take n).drop i).length ≤ 7 := by simp; omega
   have hyr := leV_le7 hl7
   rw [← hy] at hyr
   have hnl : ((cur.drop o).take n).length = n := by simp; omega
   have hst := leV_at (l := (cur.drop o).take n) (i := i - 1) (by omega)
   rw [show i - 1 + 1 = i by omega, ← hy] at hst
   have hgd : ((cur.drop o).take n).getD (i - 1) 0 = cur.getD (o + ((i : Int) - 1).toNat * 1) 0 := by
    rw [show o + ((i : Int) - 1).toNat * 1 = o + (i - 1) by omega]
    simp [List.getD_eq_getElem?_getD, List.getElem?_take, show i - 1 < n by omega]
   rw [hgd] at hst
   refine sk ?_
   refine then_n ?_
   refine sq ?_
   refine bk ?_
   refine rg ?_
   refine mv (v := .int .u64 _) rfl rfl ?_
   refine shlK (s := 8) (p := 256) rfl rfl (by decide) (by decide) (by first | exact w_u64 (by omega) | exact w_u64 (rng_u64 _) | exact m_u64 _) rfl ?_
   refine mv (v := .slice _ _ _) rfl rfl ?_
   refine mv (v := .int .i64 _) rfl rfl ?_
   refine ia rfl rfl Tryz.underlying30 sz5_1 (by omega) rfl ?_
   (refine ldb H rfl sc5 (by omega) rfl ?_; intro hu1)
   refine cvi rfl rfl Tryz.underlying28 (by first | exact w_u64 (by omega) | exact w_u64 (rng_u64 _) | exact m_u64 _) rfl ?_
   refine bor (c := leV (((cur.drop o).take n).drop (i - 1))) rfl rfl ((or64 hyr (UInt8.toNat_lt _)).trans hst.symm) rfl ?_
   refine asg (v := .int .u64 _) rfl rfl ?_
   refine nl ?_
   refine in_n ?_
   refine then_n ?_
   refine rg ?_
   refine mv (v := .int .i64 _) rfl rfl ?_
   refine sub rfl rfl (by first | exact w_i64 (by omega) | exact w_i64 (rng_i64 _) | rfl) rfl ?_
   refine asg (v := .int .i64 _) rfl rfl ?_
   refine nl ?_
   refine loop_n ?_
   exact ⟨(i - 1, leV (((cur.drop o).take n).drop (i - 1))), (by (try dsimp only); omega), ⟨by omega, rfl, H⟩, (fCX (fCX (fN _))), agX⟩
  ·refine ex ?_
   refine then_e ?_
   refine loop_e ?_
   refine in_hit rfl ?_
   refine then_n ?_
   refine sq ?_
   refine rg ?_
   refine mv (v := .int .u64 _) rfl rfl ?_
   refine asg (v := .int .u64 _) rfl rfl ?_
   refine nl ?_
   refine then_n ?_
   refine rt ?_
   refine fin_r ?_
   obtain rfl : i = 0 := by omega
   exact ⟨congrArg (Value.int .u64) hy, H.fr⟩
set_option maxRecDepth 100000 in
set_option maxHeartbeats 8000000 in
theorem c_gptAt (w : World) (q n c a : Nat) (T : TypeId) (fr : Nat × Nat) (bs : List UInt8) (hb : w.heap[q]? = some (.cells (Bs bs).toArray T fr)) (hn : 80 ≤ n ∧ n ≤ 1000000) (hl : n * 512 ≤ bs.length) (hc : n * 512 ≤ c) (ha : a < n) : Calls Tryz.prog 34 #[.slice (some ⟨q, 0, none⟩) (n * 512) c, .int .i64 512, .int .u64 (a : Int)] w (Ret fun v w' => ∃ v1, v = .tuple #[v1, .bool (gatB bs n a)] ∧ (gatB bs n a = true → ∃ k D cap, fld bs (a * 512 + 72) 8 = ((k : Nat) : Int) ∧ k * 512 + 16384 ≤ n * 512 ∧ v1 = .agg (gtCells D (usedP (pcs bs (k * 512) 16384) 128).length cap 512 (gT (pcs bs (a * 512 + 56) 16)) false false).toArray ∧ OR 54 8 w [] w' [] D (usedP (pcs bs (k * 512) 16384) 128).length cap ((usedP (pcs bs (k * 512) 16384) 128).flatMap GP.cells)) ∧ (gatB bs n a = false → v1 = .agg (gtCells none 0 0 0 [] false false).toArray) ∧ Fr [] w w') := by
 refine enterR [.cell 6 24, .tmp 7] Tryz.func34 rfl rfl rfl rfl ?_
 have H := SH.ro1 hb
 have hA92 : a * 512 + 92 ≤ bs.length := by omega
 have hp92 : (pcs bs (a * 512) 92).length = 92 := pcs_len hA92
 have hz92 := zHdr_len hp92
 have hcr := crc32_rng (zHdr (pcs bs (a * 512) 92))
 refine sq ?_
 refine rg ?_
 refine al H ze24 rfl ?_
 clear H; intro b1 w1 hb1 H _
 refine asg (v := .bool _) rfl rfl ?_
 refine nl ?_
 refine then_n ?_
 refine sq ?_
 refine rg ?_
 refine mv (v := .int .i64 _) rfl rfl ?_
 refine cvi rfl rfl Tryz.underlying28 (by first | exact w_u64 (by omega) | exact w_u64 (rng_u64 _) | exact m_u64 _) rfl ?_
 refine asg (v := .int .u64 _) rfl rfl ?_
 refine nl ?_
 refine then_n ?_
 refine sq ?_
 refine rg ?_
 refine mv (v := .slice _ _ _) rfl rfl ?_
 refine lnS rfl Tryz.underlying30 rfl ?_
 refine cvi rfl rfl Tryz.underlying28 (by first | exact w_u64 (by omega) | exact w_u64 (rng_u64 _) | exact m_u64 _) rfl ?_
 refine mv (v := .int .u64 _) rfl rfl ?_
 refine quo (c := (n : Int)) rfl rfl (by omega) (by omega) (by rw [w_u64 (by omega)]; omega) rfl ?_
 refine asg (v := .int .u64 _) rfl rfl ?_
 refine nl ?_
 refine then_n ?_
 refine sq ?_
 refine sq ?_
 refine rg ?_
 refine mv (v := .int .u64 _) rfl rfl ?_
 refine mv (v := .int .u64 _) rfl rfl ?_
 refine geq rfl rfl rfl ?_
 refine nl ?_
 refine then_n ?_
 refine cF rfl (by omega) ?_
 refine sk ?_
 refine then_n ?_
 refine sq ?_
 refine rg ?_
 refine bsl (sz := 1) (out := ?o1) H Tryz.underlying30 ze5 sz5_1 (by decide) ?f1 rfl ?_
 case f1 =>
  exact FS.nil
 clear H; intro b2 w2 hb2 H F
 refine mv (v := .slice _ _ _) rfl rfl ?_
 refine mv (v := .int .u64 _) rfl rfl ?_
 refine mv (v := .int .u64 _) rfl rfl ?_
 refine mul (c := ((a * 512 : Nat) : Int)) rfl rfl (by rw [w_u64 (by omega)]; omega) rfl ?_
 refine mv (v := .int .u64 _) rfl rfl ?_
 refine mv (v := .int .u64 _) rfl rfl ?_
 refine mul (c := ((a * 512 : Nat) : Int)) rfl rfl (by rw [w_u64 (by omega)]; omega) rfl ?_
 refine add (c := ((a * 512 + 92 : Nat) : Int)) rfl rfl (by rw [w_u64 (by omega)]; omega) rfl ?_
 refine sllhN (a * 512) (92) (c - a * 512) rfl rfl rfl Tryz.underlying30 sz5_1 (by omega) (by omega) rfl ?_
 refine apZ (bs := pcs bs (a * 512) 92) H rfl rfl (RB.of (b := q) (o := a * 512) (n := 92) H (by omega)) Tryz.underlying30 ri5 (by omega) rfl ?_
 clear H; intro q9 c9 w3 hq9 hc9 hc9m _ H
 unfold maxLen at hc9m
 refine asg (v := .slice _ _ _) rfl rfl ?_
 refine nl ?_
 refine then_n ?_
 refine sq ?_
 refine rg ?_
 refine mv (v := .slice _ _ _) rfl rfl ?_
 refine sllhN (16) (4) (c9 - 16) rfl rfl rfl Tryz.underlying30 sz5_1 (by omega) (by omega) rfl ?_
 refine cl ca58 (c_le _ q9 16 4 _ _ _ _ (H.look (b := q9)) (by rw [List.length_append, hp92]; omega) (by decide)) rfl ?_
 rintro _ w4 ⟨rfl, F⟩
 replace H := H.keep F; clear F
 rw [leH (o := 16) (k := 4) hA92 (by decide)]
 refine asg (v := .int .u64 _) rfl rfl ?_
 refine nl ?_
 refine then_n ?_
 refine sq ?_
 refine rg ?_
 refine mv (v := .slice _ _ _) rfl rfl ?_
 refine sllhN (16) (4) (c9 - 16) rfl rfl rfl Tryz.underlying30 sz5_1 (by omega) (by omega) rfl ?_
 refine cl ca45 (c_putLe _ q9 16 4 _ _ _ _ (H.look (b := q9)) (by rw [List.length_append, hp92]; omega) (by decide)) rfl ?_
 rintro _ w5 ⟨rfl, hlen, F, hnew⟩
 replace H := H.put (b := q9) F hnew; clear F hnew hlen
 rw [putZ hA92] at H
 refine nl ?_
 refine then_n ?_
 refine sq ?_
 refine sq ?_
 refine rg ?_
 refine mv (v := .slice _ _ _) rfl rfl ?_
 refine slh rfl rfl Tryz.underlying30 sz5_1 (by first | trivial | omega | (simp; omega)) rfl ?_
 refine cvBS rfl (by have e := RB.of (b := q9) (o := 0) (n := 8) H (by rw [List.length_append, hz92]; omega); rw [sigF hA92] at e; exact e) Tryz.underlying30 Tryz.underlying5 Tryz.underlying9 rfl ?_
 refine neqT rfl rfl rfl ?_
 refine mv (v := .bool _) rfl rfl ?_
 refine spd (t := 52) rfl (fun hg1 => ?_) (fun hg1 => ?_)
 ·refine gn rfl rfl ?_
  refine gn rfl rfl ?_
  refine gn rfl rfl ?_
  refine gn rfl rfl ?_
  refine pkT (v := .bool _) rfl rfl rfl ?_
  refine mv (v := .bool _) rfl rfl ?_
  refine gn rfl rfl ?_
  refine gn rfl rfl ?_
  refine gn rfl rfl ?_
  refine gn rfl rfl ?_
  refine gn rfl rfl ?_
  refine pkT (v := .bool _) rfl rfl rfl ?_
  refine mv (v := .bool _) rfl rfl ?_
  refine gn rfl rfl ?_
  refine gn rfl rfl ?_
  refine gn rfl rfl ?_
  refine gn rfl rfl ?_
  refine gn rfl rfl ?_
  refine pkT (v := .bool _) rfl rfl rfl ?_
  refine mv (v := .bool _) rfl rfl ?_
  refine gn rfl rfl ?_
  refine gn rfl rfl ?_
  refine gn rfl rfl ?_
  refine gn rfl rfl ?_
  refine pkT (v := .bool _) rfl rfl rfl ?_
  refine mv (v := .bool _) rfl rfl ?_
  refine gn rfl rfl ?_
  refine gn rfl rfl ?_
  refine gn rfl rfl ?_
  refine gn rfl rfl ?_
  refine pkT (v := .bool _) rfl rfl rfl ?_
  refine nl ?_
  refine then_n ?_
  refine cbT rfl rfl ?_
  refine sq ?_
  refine rg ?_
  refine la H rfl ag24_5 rfl rfl rfl ?_
  refine sa H rfl rfl ag24_5 rfl rfl (by decide) (by omega) rfl ?_
  clear H; intro w6 H _
  refine asg (v := .bool _) rfl rfl ?_
  refine nl ?_
  refine then_n ?_
  refine rt ?_
  refine then_r ?_
  refine finR_r ?_
  have hgF : gatB bs n a = false := by
   unfold gatB sigOk crcOk
   simp_all [efiL]
  rw [hgF]
  exact ⟨[_, _], ⟨finC rfl (H.look (b := b1)) ag24_5, rfl, trivial⟩, .agg (gtCells none 0 0 0 [] false false).toArray, rfl, fun h => Bool.noConfusion h, fun _ => rfl, H.fr⟩
 ·refine gy rfl ?_
  refine mv (v := .slice _ _ _) rfl rfl ?_
  refine gy rfl ?_
  refine sllhN (12) (4) (c9 - 12) rfl rfl rfl Tryz.underlying30 sz5_1 (by omega) (by omega) rfl ?_
  refine gy rfl ?_
  refine cl ca58 (c_le _ q9 12 4 _ _ _ _ (H.look (b := q9)) (by rw [List.length_append, hz92]; omega) (by decide)) rfl ?_
  rintro _ w7 ⟨rfl, F⟩
  replace H := H.keep F; clear F
  rw [leF (o := 12) (k := 4) hA92 (by decide) (by decide)]
  refine gy rfl ?_
  refine neq rfl rfl rfl ?_
  refine pkF (v := .bool _) rfl rfl rfl ?_
  refine mv (v := .bool _) rfl rfl ?_
  refine spd (t := 58) rfl (fun hg2 => ?_) (fun hg2 => ?_)
  ·refine gn rfl rfl ?_
   refine gn rfl rfl ?_
   refine gn rfl rfl ?_
   refine gn rfl rfl ?_
   refine gn rfl rfl ?_
   refine pkT (v := .bool _) rfl rfl rfl ?_
   refine mv (v := .bool _) rfl rfl ?_
   refine gn rfl rfl ?_
   refine gn rfl rfl ?_
   refine gn rfl rfl ?_
   refine gn rfl rfl ?_
   refine gn rfl rfl ?_
   refine pkT (v := .bool _) rfl rfl rfl ?_
   refine mv (v := .bool _) rfl rfl ?_
   refine gn rfl rfl ?_
   refine gn rfl rfl ?_
   refine gn rfl rfl ?_
   refine gn rfl rfl ?_
   refine pkT (v := .bool _) rfl rfl rfl ?_
   refine mv (v := .bool _) rfl rfl ?_
   refine gn rfl rfl ?_
   refine gn rfl rfl ?_
   refine gn rfl rfl ?_
   refine gn rfl rfl ?_
   refine pkT (v := .bool _) rfl rfl rfl ?_
   refine nl ?_
   refine then_n ?_
   refine cbT rfl rfl ?_
   refine sq ?_
   refine rg ?_
   refine la H rfl ag24_5 rfl rfl rfl ?_
   refine sa H rfl rfl ag24_5 rfl rfl (by decide) (by omega) rfl ?_
   clear H; intro w8 H _
   refine asg (v := .bool _) rfl rfl ?_
   refine nl ?_
   refine then_n ?_
   refine rt ?_
   refine then_r ?_
   refine finR_r ?_
   have hgF : gatB bs n a = false := by
    unfold gatB sigOk crcOk
    simp_all [efiL]
   rw [hgF]
   exact ⟨[_, _], ⟨finC rfl (H.look (b := b1)) ag24_5, rfl, trivial⟩, .agg (gtCells none 0 0 0 [] false false).toArray, rfl, fun h => Bool.noConfusion h, fun _ => rfl, H.fr⟩
  ·refine gy rfl ?_
   refine mv (v := .slice _ _ _) rfl rfl ?_
   refine gy rfl ?_
   refine cl ca46 (c_specCrc _ _ _ _ (zHdr (pcs bs (a * 512) 92)) (by have e := RB.of (b := q9) (o := 0) (n := 92) H (by rw [List.length_append, hz92]; omega); rw [List.drop_zero, List.take_append_of_le_length (by omega), List.take_of_length_le (by omega)] at e; exact e) (by decide)) rfl ?_
   rintro _ w9 ⟨rfl, F⟩
   replace H := H.keep F; clear F
   refine gy rfl ?_
   refine cvi (c := crc32 (zHdr (pcs bs (a * 512) 92))) rfl rfl Tryz.underlying28 (w_u64 (by omega)) rfl ?_
   refine gy rfl ?_
   refine mv (v := .int .u64 _) rfl rfl ?_
   refine gy rfl ?_
   refine neq rfl rfl rfl ?_
   refine pkF (v := .bool _) rfl rfl rfl ?_
   refine mv (v := .bool _) rfl rfl ?_
   refine spd (t := 65) rfl (fun hg3 => ?_) (fun hg3 => ?_)
   ·refine gn rfl rfl ?_
    refine gn rfl rfl ?_
    refine gn rfl rfl ?_
    refine gn rfl rfl ?_
    refine gn rfl rfl ?_
    refine pkT (v := .bool _) rfl rfl rfl ?_
    refine mv (v := .bool _) rfl rfl ?_
    refine gn rfl rfl ?_
    refine gn rfl rfl ?_
    refine gn rfl rfl ?_
    refine gn rfl rfl ?_
    refine pkT (v := .bool _) rfl rfl rfl ?_
    refine mv (v := .bool _) rfl rfl ?_
    refine gn rfl rfl ?_
    refine gn rfl rfl ?_
    refine gn rfl rfl ?_
    refine gn rfl rfl ?_
    refine pkT (v := .bool _) rfl rfl rfl ?_
    refine nl ?_
    refine then_n ?_
    refine cbT rfl rfl ?_
    refine sq ?_
    refine rg ?_
    refine la H rfl ag24_5 rfl rfl rfl ?_
    refine sa H rfl rfl ag24_5 rfl rfl (by decide) (by omega) rfl ?_
    clear H; intro w10 H _
    refine asg (v := .bool _) rfl rfl ?_
    refine nl ?_
    refine then_n ?_
    refine rt ?_
    refine then_r ?_
    refine finR_r ?_
    have hgF : gatB bs n a = false := by
     unfold gatB sigOk crcOk
     simp_all [efiL]
    rw [hgF]
    exact ⟨[_, _], ⟨finC rfl (H.look (b := b1)) ag24_5, rfl, trivial⟩, .agg (gtCells none 0 0 0 [] false false).toArray, rfl, fun h => Bool.noConfusion h, fun _ => rfl, H.fr⟩
   ·refine gy rfl ?_
    refine mv (v := .slice _ _ _) rfl rfl ?_
    refine gy rfl ?_
    refine sllhN (24) (8) (c9 - 24) rfl rfl rfl Tryz.underlying30 sz5_1 (by omega) (by omega) rfl ?_
    refine gy rfl ?_
    refine cl ca58 (c_le _ q9 24 8 _ _ _ _ (H.look (b := q9)) (by rw [List.length_append, hz92]; omega) (by decide)) rfl ?_
    rintro _ w11 ⟨rfl, F⟩
    replace H := H.keep F; clear F
    rw [leF (o := 24) (k := 8) hA92 (by decide) (by decide)]
    refine gy rfl ?_
    refine mv (v := .int .u64 _) rfl rfl ?_
    refine gy rfl ?_
    refine neq rfl rfl rfl ?_
    refine pkF (v := .bool _) rfl rfl rfl ?_
    refine mv (v := .bool _) rfl rfl ?_
    refine spd (t := 72) rfl (fun hg4 => ?_) (fun hg4 => ?_)
    ·refine gn rfl rfl ?_
     refine gn rfl rfl ?_
     refine gn rfl rfl ?_
     refine gn rfl rfl ?_
     refine pkT (v := .bool _) rfl rfl rfl ?_
     refine mv (v := .bool _) rfl rfl ?_
     refine gn rfl rfl ?_
     refine gn rfl rfl ?_
     refine gn rfl rfl ?_
     refine gn rfl rfl ?_
     refine pkT (v := .bool _) rfl rfl rfl ?_
     refine nl ?_
     refine then_n ?_
     refine cbT rfl rfl ?_
     refine sq ?_
     refine rg ?_
     refine la H rfl ag24_5 rfl rfl rfl ?_
     refine sa H rfl rfl ag24_5 rfl rfl (by decide) (by omega) rfl ?_
     clear H; intro w12 H _
     refine asg (v := .bool _) rfl rfl ?_
     refine nl ?_
     refine then_n ?_
     refine rt ?_
     refine then_r ?_
     refine finR_r ?_
     have hgF : gatB bs n a = false := by
      unfold gatB sigOk crcOk
      simp_all [efiL]
     rw [hgF]
     exact ⟨[_, _], ⟨finC rfl (H.look (b := b1)) ag24_5, rfl, trivial⟩, .agg (gtCells none 0 0 0 [] false false).toArray, rfl, fun h => Bool.noConfusion h, fun _ => rfl, H.fr⟩
    ·refine gy rfl ?_
     refine mv (v := .slice _ _ _) rfl rfl ?_
     refine gy rfl ?_
     refine sllhN (84) (4) (c9 - 84) rfl rfl rfl Tryz.underlying30 sz5_1 (by omega) (by omega) rfl ?_
     refine gy rfl ?_
     refine cl ca58 (c_le _ q9 84 4 _ _ _ _ (H.look (b := q9)) (by rw [List.length_append, hz92]; omega) (by decide)) rfl ?_
     rintro _ w13 ⟨rfl, F⟩
     replace H := H.keep F; clear F
     rw [leF (o := 84) (k := 4) hA92 (by decide) (by decide)]
     refine gy rfl ?_
     refine neq rfl rfl rfl ?_
     refine pkF (v := .bool _) rfl rfl rfl ?_
     refine mv (v := .bool _) rfl rfl ?_
     refine spd (t := 78) rfl (fun hg5 => ?_) (fun hg5 => ?_)
     ·refine gn rfl rfl ?_
      refine gn rfl rfl ?_
      refine gn rfl rfl ?_
      refine gn rfl rfl ?_
      refine pkT (v := .bool _) rfl rfl rfl ?_
      refine nl ?_
      refine then_n ?_
      refine cbT rfl rfl ?_
      refine sq ?_
      refine rg ?_
      refine la H rfl ag24_5 rfl rfl rfl ?_
      refine sa H rfl rfl ag24_5 rfl rfl (by decide) (by omega) rfl ?_
      clear H; intro w14 H _
      refine asg (v := .bool _) rfl rfl ?_
      refine nl ?_
      refine then_n ?_
      refine rt ?_
      refine then_r ?_
      refine finR_r ?_
      have hgF : gatB bs n a = false := by
       unfold gatB sigOk crcOk
       simp_all [efiL]
      rw [hgF]
      exact ⟨[_, _], ⟨finC rfl (H.look (b := b1)) ag24_5, rfl, trivial⟩, .agg (gtCells none 0 0 0 [] false false).toArray, rfl, fun h => Bool.noConfusion h, fun _ => rfl, H.fr⟩
     ·refine gy rfl ?_
      refine mv (v := .slice _ _ _) rfl rfl ?_
      refine gy rfl ?_
      refine sllhN (80) (4) (c9 - 80) rfl rfl rfl Tryz.underlying30 sz5_1 (by omega) (by omega) rfl ?_
      refine gy rfl ?_
      refine cl ca58 (c_le _ q9 80 4 _ _ _ _ (H.look (b := q9)) (by rw [List.length_append, hz92]; omega) (by decide)) rfl ?_
      rintro _ w15 ⟨rfl, F⟩
      replace H := H.keep F; clear F
      rw [leF (o := 80) (k := 4) hA92 (by decide) (by decide)]
      refine gy rfl ?_
      refine neq rfl rfl rfl ?_
      refine pkF (v := .bool _) rfl rfl rfl ?_
      refine nl ?_
      refine then_n ?_
      refine cd rfl (fun hc2 => ?_) (fun hc2 => ?_)
      ·refine sq ?_
       refine rg ?_
       refine la H rfl ag24_5 rfl rfl rfl ?_
       refine sa H rfl rfl ag24_5 rfl rfl (by decide) (by omega) rfl ?_
       clear H; intro w16 H _
       refine asg (v := .bool _) rfl rfl ?_
       refine nl ?_
       refine then_n ?_
       refine rt ?_
       refine then_r ?_
       refine finR_r ?_
       have hgF : gatB bs n a = false := by
        unfold gatB sigOk crcOk
        simp_all [efiL]
       rw [hgF]
       exact ⟨[_, _], ⟨finC rfl (H.look (b := b1)) ag24_5, rfl, trivial⟩, .agg (gtCells none 0 0 0 [] false false).toArray, rfl, fun h => Bool.noConfusion h, fun _ => rfl, H.fr⟩
      ·refine sk ?_
       refine then_n ?_
       refine sq ?_
       refine rg ?_
       refine mv (v := .slice _ _ _) rfl rfl ?_
       refine sllhN (72) (8) (c9 - 72) rfl rfl rfl Tryz.underlying30 sz5_1 (by omega) (by omega) rfl ?_
       refine cl ca58 (c_le _ q9 72 8 _ _ _ _ (H.look (b := q9)) (by rw [List.length_append, hz92]; omega) (by decide)) rfl ?_
       rintro _ w17 ⟨rfl, F⟩
       replace H := H.keep F; clear F
       rw [leF (o := 72) (k := 8) hA92 (by decide) (by decide)]
       have hkr := (fld_rng8 (ds := bs) (o := a * 512 + 72) (n := 8) (by decide)).1
       obtain ⟨k, hk⟩ : ∃ k : Nat, fld bs (a * 512 + 72) 8 = (k : Int) := ⟨_, (Int.toNat_of_nonneg hkr).symm⟩
       rw [hk]
       have hkm := (fld_rng8 (ds := bs) (o := a * 512 + 72) (n := 8) (by decide)).2
       rw [hk] at hkm
       have hcr2 := crc32_rng (pcs bs (k * 512) 16384)
       refine asg (v := .int .u64 _) rfl rfl ?_
       refine nl ?_
       refine then_n ?_
       refine sq ?_
       refine sq ?_
       refine rg ?_
       refine mv (v := .int .u64 _) rfl rfl ?_
       refine mv (v := .int .u64 _) rfl rfl ?_
       refine geq rfl rfl rfl ?_
       refine mv (v := .bool _) rfl rfl ?_
       refine spd (t := 91) rfl (fun hg6 => ?_) (fun hg6 => ?_)
       ·refine gn rfl rfl ?_
        refine gn rfl rfl ?_
        refine gn rfl rfl ?_
        refine gn rfl rfl ?_
        refine gn rfl rfl ?_
        refine gn rfl rfl ?_
        refine pkT (v := .bool _) rfl rfl rfl ?_
        refine nl ?_
        refine then_n ?_
        refine cbT rfl rfl ?_
        refine sq ?_
        refine rg ?_
        refine la H rfl ag24_5 rfl rfl rfl ?_
        refine sa H rfl rfl ag24_5 rfl rfl (by decide) (by omega) rfl ?_
        clear H; intro w18 H _
        refine asg (v := .bool _) rfl rfl ?_
        refine nl ?_
        refine then_n ?_
        refine rt ?_
        refine then_r ?_
        refine finR_r ?_
        have hgF : gatB bs n a = false := by
         unfold gatB sigOk crcOk
         rw [hk, decide_eq_false (p := (k : Int) < (n : Int)) (by omega)]; simp
        rw [hgF]
        exact ⟨[_, _], ⟨finC rfl (H.look (b := b1)) ag24_5, rfl, trivial⟩, .agg (gtCells none 0 0 0 [] false false).toArray, rfl, fun h => Bool.noConfusion h, fun _ => rfl, H.fr⟩
       ·refine gy rfl ?_
        refine mv (v := .int .u64 _) rfl rfl ?_
        refine gy rfl ?_
        refine mv (v := .int .u64 _) rfl rfl ?_
        refine gy rfl ?_
        refine sub (c := (n : Int) - k) rfl rfl (by rw [w_u64 (by omega)]) rfl ?_
        refine gy rfl ?_
        refine mv (v := .int .i64 _) rfl rfl ?_
        refine gy rfl ?_
        refine cl ca21 (c_tabSectors _) rfl ?_
        rintro _ w19 ⟨rfl, F⟩
        replace H := H.keep F; clear F
        refine gy rfl ?_
        refine lss rfl rfl rfl ?_
        refine pkF (v := .bool _) rfl rfl rfl ?_
        refine nl ?_
        refine then_n ?_
        refine cd rfl (fun hc3 => ?_) (fun hc3 => ?_)
        ·refine sq ?_
         refine rg ?_
         refine la H rfl ag24_5 rfl rfl rfl ?_
         refine sa H rfl rfl ag24_5 rfl rfl (by decide) (by omega) rfl ?_
         clear H; intro w20 H _
         refine asg (v := .bool _) rfl rfl ?_
         refine nl ?_
         refine then_n ?_
         refine rt ?_
         refine then_r ?_
         refine finR_r ?_
         have hgF : gatB bs n a = false := by
          unfold gatB sigOk crcOk
          rw [hk, decide_eq_false (p := 32 ≤ (n : Int) - (k : Int)) (by omega)]; simp
         rw [hgF]
         exact ⟨[_, _], ⟨finC rfl (H.look (b := b1)) ag24_5, rfl, trivial⟩, .agg (gtCells none 0 0 0 [] false false).toArray, rfl, fun h => Bool.noConfusion h, fun _ => rfl, H.fr⟩
        ·refine sk ?_
         refine then_n ?_
         refine sq ?_
         refine rg ?_
         refine mv (v := .slice _ _ _) rfl rfl ?_
         refine mv (v := .int .u64 _) rfl rfl ?_
         refine mv (v := .int .u64 _) rfl rfl ?_
         refine mul (c := ((k * 512 : Nat) : Int)) rfl rfl (by rw [w_u64 (by omega)]; omega) rfl ?_
         refine mv (v := .int .u64 _) rfl rfl ?_
         refine mv (v := .int .u64 _) rfl rfl ?_
         refine mul (c := ((k * 512 : Nat) : Int)) rfl rfl (by rw [w_u64 (by omega)]; omega) rfl ?_
         refine add (c := ((k * 512 + 16384 : Nat) : Int)) rfl rfl (by rw [w_u64 (by omega)]; omega) rfl ?_
         refine sllhN (k * 512) (16384) (c - k * 512) rfl rfl rfl Tryz.underlying30 sz5_1 (by omega) (by omega) rfl ?_
         refine asg (v := .slice _ _ _) rfl rfl ?_
         refine nl ?_
         refine then_n ?_
         refine sq ?_
         refine sq ?_
         refine dr (by kernel_rfl) ?_
         have H := H.drew
         refine hold (fun _ => True) [] ?_
         refine tk (i := 0) rfl (by kernel_rfl) rfl trivial (fun _ _ => r_mv (v := .slice _ _ _) rfl) ?_
         refine tk (i := 3) rfl (by kernel_rfl) rfl trivial (fun _ _ => r_mv (v := .slice _ _ _) rfl) ?_
         refine tk (i := 4) rfl (by kernel_rfl) rfl trivial (fun _ _ => r_sllhN (88) (4) (c9 - 88) rfl rfl rfl Tryz.underlying30 sz5_1 (by omega) (by omega)) ?_
         refine unfree ?_
         refine fo (i := 1) (by kernel_rfl) rfl rfl ?_
         refine cl ca46 (c_specCrc _ _ _ _ (pcs bs (k * 512) 16384) (RB.of (b := q) (o := k * 512) (n := 16384) H (by omega)) (by decide)) rfl ?_
         rintro _ w21 ⟨rfl, F⟩
         replace H := H.keep F; clear F
         refine nl ?_
         refine then_n ?_
         refine holdH H [] ?_
         refine tk (i := 2) rfl (by kernel_rfl) rfl H (fun w' H => r_cvi (c := crc32 (pcs bs (k * 512) 16384)) rfl rfl Tryz.underlying28 (w_u64 (by omega))) ?_
         refine fk (i := 5) (by kernel_rfl) rfl rfl rfl ?_
         refine cl ca58 (c_le _ q9 88 4 _ _ _ _ (H.look (b := q9)) (by rw [List.length_append, hz92]; omega) (by decide)) rfl ?_
         rintro _ w22 ⟨rfl, F⟩
         replace H := H.keep F; clear F
         rw [leF (o := 88) (k := 4) hA92 (by decide) (by decide)]
         refine nl ?_
         refine then_n ?_
         refine ⟨H, ?_⟩
         refine tk (i := 6) rfl (by kernel_rfl) rfl H (fun w' H => r_neq rfl rfl) ?_
         refine da (by kernel_rfl) ?_
         refine then_n ?_
         refine cd rfl (fun hc4 => ?_) (fun hc4 => ?_)
         ·refine sq ?_
          refine rg ?_
          refine la H rfl ag24_5 rfl rfl rfl ?_
          refine sa H rfl rfl ag24_5 rfl rfl (by decide) (by omega) rfl ?_
          clear H; intro w23 H _
          refine asg (v := .bool _) rfl rfl ?_
          refine nl ?_
          refine then_n ?_
          refine rt ?_
          refine then_r ?_
          refine finR_r ?_
          have hgF : gatB bs n a = false := by
           unfold gatB sigOk crcOk
           rw [hk, Int.toNat_natCast, decide_eq_false (p := crc32 (pcs bs (k * 512) 16384) = fld bs (a * 512 + 88) 4) (by omega)]; simp
          rw [hgF]
          exact ⟨[_, _], ⟨finC rfl (H.look (b := b1)) ag24_5, rfl, trivial⟩, .agg (gtCells none 0 0 0 [] false false).toArray, rfl, fun h => Bool.noConfusion h, fun _ => rfl, H.fr⟩
         ·refine sk ?_
          refine then_n ?_
          refine sq ?_
          refine rg ?_
          refine mv (v := .int .i64 _) rfl rfl ?_
          refine mv (v := .slice _ _ _) rfl rfl ?_
          refine sllhN (56) (16) (c9 - 56) rfl rfl rfl Tryz.underlying30 sz5_1 (by omega) (by omega) rfl ?_
          refine cl ca59 (c_guidText _ _ _ _ (pcs bs (a * 512 + 56) 16) (by have e := RB.of (b := q9) (o := 56) (n := 16) H (by rw [List.length_append, hz92]; omega); rw [guF hA92] at e; exact e) rfl) rfl ?_
          rintro _ w24 ⟨rfl, F⟩
          replace H := H.keep F; clear F
          refine bu (out := ?o2) ze24 bo24 ?f2 rfl ?_
          case f2 =>
           refine FL.one (v := .int .i64 _) rfl pl24_1 rfl (by first | decide | simp) ?_
           refine FL.one (v := .string _) rfl pl24_2 rfl (by first | decide | simp) ?_
           exact FL.nil
          refine sa (cs' := gtCells none 0 0 512 (gT (pcs bs (a * 512 + 56) 16)) false false) H rfl rfl ag24_5 rfl rfl (by show 0 + 5 ≤ 5; decide) (by omega) rfl ?_
          clear H; intro w71 H _
          refine nl ?_
          refine then_n ?_
          refine sq ?_
          refine sq ?_
          refine rg ?_
          refine mv (v := .int .i64 _) rfl rfl ?_
          refine nl ?_
          refine then_n ?_
          refine bk ?_
          refine lpM (α := Nat × Option Addr × Nat) [14, 15, 16, 17, 18, 19, 122, 123, 124, 125, 126, 127, 128, 129, 130, 131, 132, 133, 134, 135, 136, 137, 138, 139, 140, 141, 142, 143, 144, 145, 146, 147, 148, 149, 150, 151, 152, 153, 154, 155, 156, 157, 158, 159, 160, 161, 162, 163, 164, 165, 166, 167, 168, 169, 170, 171, 172, 173, 174, 175, 176, 177, 178, 179, 180, 181, 182, 183] (fun (i, D, cap) => [(122, .int .i64 (i : Int))]) (fun (i, D, cap) w' => i ≤ 128 ∧ OR 54 8 w [] w' [⟨q9, .cells (Bs (zHdr (pcs bs (a * 512) 92) ++ List.replicate (c9 - 92) 0)).toArray 5 (0, 0), true⟩, ⟨b1, .cells (gtCells D (usedP (pcs bs (k * 512) 16384) i).length cap 512 (gT (pcs bs (a * 512 + 56) 16)) false false).toArray 24 (0, 0), true⟩, ⟨q, .cells (Bs bs).toArray T fr, false⟩] D (usedP (pcs bs (k * 512) 16384) i).length cap ((usedP (pcs bs (k * 512) 16384) i).flatMap GP.cells)) (fun (i, D, cap) => 128 - i) (0, none, 0) ?_ (fCX (fN _)) ?_
          ·exact ⟨by omega, OR.nil (H.subX)⟩
          ·rintro ⟨i, D, cap⟩ ρx w25 ⟨hi, O⟩
           have H := O.sh
           refine sq ?_
           refine rg ?_
           refine lss rfl rfl rfl ?_
           refine nl ?_
           refine then_n ?_
           refine sq ?_
           refine cd rfl (fun hc5 => ?_) (fun hc5 => ?_)
           ·have hi8 : i < 128 := by omega
            have hul := usedP_le (pcs bs (k * 512) 16384) i
            refine sk ?_
            refine then_n ?_
            refine sq ?_
            refine bk ?_
            refine sq ?_
            refine rg ?_
            refine mv (v := .int .i64 _) rfl rfl ?_
            refine asg (v := .int .i64 _) rfl rfl ?_
            refine nl ?_
            refine then_n ?_
            refine sq ?_
            refine rg ?_
            refine mv (v := .slice _ _ _) rfl rfl ?_
            refine mv (v := .int .i64 _) rfl rfl ?_
            refine mul rfl rfl (by first | exact w_i64 (by omega) | exact w_i64 (rng_i64 _) | rfl) rfl ?_
            refine mv (v := .int .i64 _) rfl rfl ?_
            refine add rfl rfl (by first | exact w_i64 (by omega) | exact w_i64 (rng_i64 _) | rfl) rfl ?_
            refine mul rfl rfl (by first | exact w_i64 (by omega) | exact w_i64 (rng_i64 _) | rfl) rfl ?_
            refine sllhN (k * 512 + 128 * i) (128) (c - (k * 512 + 128 * i)) rfl rfl rfl Tryz.underlying30 sz5_1 (by omega) (by omega) rfl ?_
            refine asg (v := .slice _ _ _) rfl rfl ?_
            refine nl ?_
            refine then_n ?_
            refine sq ?_
            refine sq ?_
            refine rg ?_
            refine mv (v := .slice _ _ _) rfl rfl ?_
            refine slh rfl rfl Tryz.underlying30 sz5_1 (by first | trivial | omega | (simp; omega)) rfl ?_
            refine cl ca59 (c_guidText _ _ _ _ (pcs (entA (pcs bs (k * 512) 16384) i) 0 16) (by have e := RB.of (b := q) (o := k * 512 + (128 * i + 0)) (n := 16) H (by omega); rw [← gtE (by decide) hi8]; exact e) rfl) rfl ?_
            rintro _ w26 ⟨rfl, F⟩
            replace H := H.keep F; replace O := O.keep F; clear F
            refine eqlT rfl rfl rfl ?_
            refine nl ?_
            refine then_n ?_
            refine cd rfl (fun hc6 => ?_) (fun hc6 => ?_)
            ·have hfe : freeE (entA (pcs bs (k * 512) 16384) i) = true := decide_eq_true ((gT_zero (pcs_len (by rw [entA_len (by omega) hi8]; decide))).1 hc6)
             refine ex ?_
             refine then_e ?_
             refine in_hit rfl ?_
             refine then_n ?_
             refine rg ?_
             refine add rfl rfl (by first | exact w_i64 (by omega) | exact w_i64 (rng_i64 _) | rfl) rfl ?_
             refine mv (v := .int .i64 _) rfl rfl ?_
             refine nl ?_
             refine loop_n ?_
             exact ⟨(i + 1, D, cap), (by (try dsimp only); omega), ⟨by omega, by rw [usedP_t hfe]; exact O.subX⟩, (fCX (fN _)), agX⟩
            ·have hfe : freeE (entA (pcs bs (k * 512) 16384) i) = false := decide_eq_false (fun h => hc6 ((gT_zero (pcs_len (by rw [entA_len (by omega) hi8]; decide))).2 h))
             refine sk ?_
             refine then_n ?_
             refine sq ?_
             refine rg ?_
             refine asg (v := .slice _ _ _) rfl rfl ?_
             refine nl ?_
             refine then_n ?_
             refine sq ?_
             refine sq ?_
             refine rg ?_
             refine asg (v := .int .i64 _) rfl rfl ?_
             refine nl ?_
             refine then_n ?_
             refine bk ?_
             have hq0 := H.look (b := q)
             refine lpM (α := Nat × Option Addr × Nat) [16, 17, 136, 137, 138, 139, 140, 141, 142, 143, 144, 145, 146, 147, 148, 149] (fun (j, A2, cap2) => [(16, .slice A2 j cap2), (17, .int .i64 (56 + 2 * (j : Int)))]) (fun (j, A2, cap2) w' => j ≤ 36 ∧ OR 25 1 w26 [] w' [⟨q, .cells (Bs bs).toArray T fr, false⟩] A2 j cap2 (((unE (entA (pcs bs (k * 512) 16384) i)).take j).map (Value.int .u16))) (fun (j, A2, cap2) => 36 - j) (0, none, 0) ?_ (fCX (fCX (fN _))) ?_
             ·exact ⟨by omega, OR.nil (SH.ro1 hq0)⟩
             ·rintro ⟨j, A2, cap2⟩ ρx w27 ⟨hj, O2⟩
              have H := O2.sh
              have hur : 0 ≤ fld (entA (pcs bs (k * 512) 16384) i) (56 + 2 * j) 2 ∧ fld (entA (pcs bs (k * 512) 16384) i) (56 + 2 * j) 2 ≤ 65535 := fld_rng2
              refine sq ?_
              refine sq ?_
              refine rg ?_
              refine mv (v := .int .i64 _) rfl rfl ?_
              refine lss rfl rfl rfl ?_
              refine nl ?_
              refine then_n ?_
              refine cd rfl (fun hc7 => ?_) (fun hc7 => ?_)
              ·refine sk ?_
               refine then_n ?_
               refine sq ?_
               refine bk ?_
               refine rg ?_
               refine mv (v := .slice _ _ _) rfl rfl ?_
               refine mv (v := .slice _ _ _) rfl rfl ?_
               refine mv (v := .int .i64 _) rfl rfl ?_
               refine mv (v := .int .i64 _) rfl rfl ?_
               refine add rfl rfl (by first | exact w_i64 (by omega) | exact w_i64 (rng_i64 _) | rfl) rfl ?_
               refine sllhN (k * 512 + (128 * i + (56 + 2 * j))) (2) (c - (k * 512 + (128 * i + (56 + 2 * j)))) rfl rfl rfl Tryz.underlying30 sz5_1 (by omega) (by omega) rfl ?_
               refine cl ca58 (c_le _ q (k * 512 + (128 * i + (56 + 2 * j))) 2 _ _ _ _ (H.look (b := q)) (by omega) (by decide)) rfl ?_
               rintro _ w28 ⟨rfl, F⟩
               replace H := H.keep F; replace O2 := O2.keep F; clear F
               rw [leE (by omega) hi8]
               refine cvi (c := fld (entA (pcs bs (k * 512) 16384) i) (56 + 2 * j) 2) rfl rfl Tryz.underlying25 (w_u16 (by omega)) rfl ?_
               refine bsl (sz := 1) (out := ?o3) H Tryz.underlying90 ze25 sz25_1 (by decide) ?f3 rfl ?_
               case f3 =>
                refine FS.one (v := .int .u16 _) rfl rfl rfl (by first | decide | simp) ?_
                exact FS.nil
               intro b3 w29 hb3 H1 F; replace O2 := O2.new F hb3 H1.look; clear H H1 F; have H := O2.sh
               refine apO (zs := [.int .u16 0]) [.int .u16 (fld (entA (pcs bs (k * 512) 16384) i) (56 + 2 * j) 2)] O2 rfl rfl Tryz.underlying90 ri25 (by first | rfl | simp) (cells_look H.look) (by simp [Value.oneCell']) (by simp) (by omega) (by unfold maxLen; omega) rfl ?_
               clear O2 H; intro D9 cp9 w30 O2
               have H := O2.sh
               refine asg (v := .slice _ _ _) rfl rfl ?_
               refine nl ?_
               refine in_n ?_
               refine then_n ?_
               refine rg ?_
               refine mv (v := .int .i64 _) rfl rfl ?_
               refine add rfl rfl (by first | exact w_i64 (by omega) | exact w_i64 (rng_i64 _) | rfl) rfl ?_
               refine asg (v := .int .i64 _) rfl rfl ?_
               refine nl ?_
               refine loop_n ?_
               exact ⟨(j + 1, D9, cp9), (by (try dsimp only); omega), ⟨by omega, by rw [unE_succ (by omega), List.map_append]; exact O2.subX⟩, (fCX (fCX (fN _))), agX⟩
              ·obtain rfl : j = 36 := by omega
               rw [List.take_of_length_le (by rw [unE_len]; decide)] at O2
               have R2 := O2.r16
               replace O := O.keep O2.sh.fr
               have H := O.sh
               refine ex ?_
               refine then_e ?_
               refine loop_e ?_
               refine in_hit rfl ?_
               refine then_n ?_
               refine sq ?_
               refine dr (by kernel_rfl) ?_
               have H := H.drew
               replace O := O.drew
               refine hold (fun _ => True) [] ?_
               replace R2 := R2.keep (Fr.drew [] _)
               refine tk (i := 0) rfl (by kernel_rfl) rfl trivial (fun _ _ => r_mv (v := .slice _ _ _) rfl) ?_
               refine tk (i := 1) rfl (by kernel_rfl) rfl trivial (fun _ _ => r_sllhN (k * 512 + (128 * i + 32)) (8) (c - (k * 512 + (128 * i + 32))) rfl rfl rfl Tryz.underlying30 sz5_1 (by omega) (by omega)) ?_
               refine tk (i := 3) rfl (by kernel_rfl) rfl trivial (fun _ _ => r_mv (v := .slice _ _ _) rfl) ?_
               refine tk (i := 4) rfl (by kernel_rfl) rfl trivial (fun _ _ => r_sllhN (k * 512 + (128 * i + 40)) (8) (c - (k * 512 + (128 * i + 40))) rfl rfl rfl Tryz.underlying30 sz5_1 (by omega) (by omega)) ?_
               refine unfree ?_
               refine fo (i := 2) (by kernel_rfl) rfl rfl ?_
               refine cl ca58 (c_le _ q (k * 512 + (128 * i + 32)) 8 _ _ _ _ (H.look (b := q)) (by omega) (by decide)) rfl ?_
               rintro _ w31 ⟨rfl, F⟩
               replace R2 := R2.keep F
               replace H := H.keep F; replace O := O.keep F; clear F
               rw [leE (o := 32) (k := 8) (by decide) hi8]
               refine nl ?_
               refine then_n ?_
               refine fo (i := 5) (by kernel_rfl) rfl rfl ?_
               refine cl ca58 (c_le _ q (k * 512 + (128 * i + 40)) 8 _ _ _ _ (H.look (b := q)) (by omega) (by decide)) rfl ?_
               rintro _ w32 ⟨rfl, F⟩
               replace R2 := R2.keep F
               replace H := H.keep F; replace O := O.keep F; clear F
               rw [leE (o := 40) (k := 8) (by decide) hi8]
               refine nl ?_
               refine then_n ?_
               refine holdH H [] ?_
               refine tk (i := 6) rfl (by kernel_rfl) rfl H (fun w' H => r_asg (v := .int .u64 _) rfl) ?_
               refine tk (i := 7) rfl (by kernel_rfl) rfl H (fun w' H => r_asg (v := .int .u64 _) rfl) ?_
               refine da (by kernel_rfl) ?_
               refine then_n ?_
               refine dr (by kernel_rfl) ?_
               have H := H.drew
               replace O := O.drew
               refine hold (fun w' => SH w [] w' [⟨q9, .cells (Bs (zHdr (pcs bs (a * 512) 92) ++ List.replicate (c9 - 92) 0)).toArray 5 (0, 0), true⟩, ⟨b1, .cells (gtCells D (usedP (pcs bs (k * 512) 16384) i).length cap 512 (gT (pcs bs (a * 512 + 56) 16)) false false).toArray 24 (0, 0), true⟩, ⟨q, .cells (Bs bs).toArray T fr, false⟩]) [27] ?_
               refine tk (i := 0) rfl (by kernel_rfl) rfl (H.subX) (fun w' H => r_fa rfl fo24_0) ?_
               refine tk (i := 1) rfl (by kernel_rfl) rfl (H.subX) (fun w' H => r_ld H rfl sc22 rfl) ?_
               replace R2 := R2.keep (Fr.drew [] _)
               refine tk (i := 2) rfl (by kernel_rfl) rfl (H.subX) (fun w' H => r_mv (v := .int .i64 _) rfl) ?_
               refine tk (i := 3) rfl (by kernel_rfl) rfl (H.subX) (fun w' H => r_add rfl rfl (by first | exact w_i64 (by omega) | exact w_i64 (rng_i64 _) | rfl)) ?_
               refine tk (i := 4) rfl (by kernel_rfl) rfl (H.subX) (fun w' H => r_mv (v := .int .u64 _) rfl) ?_
               refine tk (i := 5) rfl (by kernel_rfl) rfl (H.subX) (fun w' H => r_mv (v := .int .u64 _) rfl) ?_
               refine tk (i := 6) rfl (by kernel_rfl) rfl (H.subX) (fun w' H => r_mv (v := .int .u64 _) rfl) ?_
               refine tk (i := 7) rfl (by kernel_rfl) rfl (H.subX) (fun w' H => r_mv (v := .int .u64 _) rfl) ?_
               refine tk (i := 8) rfl (by kernel_rfl) rfl (H.subX) (fun w' H => r_sub rfl rfl (by first | exact w_u64 (by omega) | exact w_u64 (rng_u64 _) | exact m_u64 _)) ?_
               refine tk (i := 9) rfl (by kernel_rfl) rfl (H.subX) (fun w' H => r_add rfl rfl (by first | exact w_u64 (by omega) | exact w_u64 (rng_u64 _) | exact m_u64 _)) ?_
               refine tk (i := 10) rfl (by kernel_rfl) rfl (H.subX) (fun w' H => r_mv (v := .int .u64 _) rfl) ?_
               refine tk (i := 11) rfl (by kernel_rfl) rfl (H.subX) (fun w' H => r_mul rfl rfl (by first | exact w_u64 (by omega) | exact w_u64 (rng_u64 _) | exact m_u64 _)) ?_
               refine tk (i := 12) rfl (by kernel_rfl) rfl (H.subX) (fun w' H => r_mv (v := .slice _ _ _) rfl) ?_
               refine tk (i := 13) rfl (by kernel_rfl) rfl (H.subX) (fun w' H => r_slh rfl rfl Tryz.underlying30 sz5_1 (by first | trivial | omega | (simp; omega))) ?_
               refine tk (i := 15) rfl (by kernel_rfl) rfl (H.subX) (fun w' H => r_mv (v := .slice _ _ _) rfl) ?_
               refine tk (i := 16) rfl (by kernel_rfl) rfl (H.subX) (fun w' H => r_sllhN (k * 512 + (128 * i + 16)) (16) (c - (k * 512 + (128 * i + 16))) rfl rfl rfl Tryz.underlying30 sz5_1 (by omega) (by omega)) ?_
               refine tk (i := 18) rfl (by kernel_rfl) rfl (H.subX) (fun w' H => r_mv (v := .slice _ _ _) rfl) ?_
               refine tk (i := 19) rfl (by kernel_rfl) rfl (H.subX) (fun w' H => r_sllhN (k * 512 + (128 * i + 48)) (8) (c - (k * 512 + (128 * i + 48))) rfl rfl rfl Tryz.underlying30 sz5_1 (by omega) (by omega)) ?_
               refine tk (i := 21) rfl (by kernel_rfl) rfl (H.subX) (fun w' H => r_mv (v := .slice _ _ _) rfl) ?_
               refine fk (i := 14) (by kernel_rfl) rfl rfl rfl ?_
               refine cl ca59 (c_guidText _ _ _ _ (pcs (entA (pcs bs (k * 512) 16384) i) 0 16) (by have e := RB.of (b := q) (o := k * 512 + (128 * i + 0)) (n := 16) H (by omega); rw [← gtE (by decide) hi8]; exact e) rfl) rfl ?_
               rintro _ w33 ⟨rfl, F⟩
               replace R2 := R2.keep F
               replace H := H.keep F; replace O := O.keep F; clear F
               refine nl ?_
               refine then_n ?_
               refine ⟨H.subX, ?_⟩
               refine fk (i := 17) (by kernel_rfl) rfl rfl rfl ?_
               refine cl ca59 (c_guidText _ _ _ _ (pcs (entA (pcs bs (k * 512) 16384) i) 16 16) (by have e := RB.of (b := q) (o := k * 512 + (128 * i + 16)) (n := 16) H (by omega); rw [← gtE (by decide) hi8]; exact e) rfl) rfl ?_
               rintro _ w34 ⟨rfl, F⟩
               replace R2 := R2.keep F
               replace H := H.keep F; replace O := O.keep F; clear F
               refine nl ?_
               refine then_n ?_
               refine ⟨H.subX, ?_⟩
               refine fk (i := 20) (by kernel_rfl) rfl rfl rfl ?_
               refine cl ca58 (c_le _ q (k * 512 + (128 * i + 48)) 8 _ _ _ _ (H.look (b := q)) (by omega) (by decide)) rfl ?_
               rintro _ w35 ⟨rfl, F⟩
               replace R2 := R2.keep F
               replace H := H.keep F; replace O := O.keep F; clear F
               rw [leE (o := 48) (k := 8) (by decide) hi8]
               refine nl ?_
               refine then_n ?_
               refine ⟨H.subX, ?_⟩
               refine fk (i := 22) (by kernel_rfl) rfl rfl rfl ?_
               refine cl ca60 (c_textOf _ A2 36 cap2 (unE (entA (pcs bs (k * 512) 16384) i)) R2 (by decide) (unE_rng _)) rfl ?_
               rintro _ w36 ⟨rfl, F⟩
               replace H := H.keep F; replace O := O.keep F; clear F
               rw [nmB_up]
               refine nl ?_
               refine then_n ?_
               refine ⟨H.subX, ?_⟩
               refine tkbu (out := ?o4) (i := 23) rfl (by kernel_rfl) rfl (H.subX) ze54 bo54 ?f4 ?_
               case f4 =>
                refine FL.one (v := .int .i64 _) rfl pl54_0 rfl (by first | decide | simp) ?_
                refine FL.one (v := .int .u64 _) rfl pl54_1 rfl (by first | decide | simp) ?_
                refine FL.one (v := .int .u64 _) rfl pl54_2 rfl (by first | decide | simp) ?_
                refine FL.one (v := .int .u64 _) rfl pl54_3 rfl (by first | decide | simp) ?_
                refine FL.one (v := .string _) rfl pl54_4 rfl (by first | decide | simp) ?_
                refine FL.one (v := .string _) rfl pl54_6 rfl (by first | decide | simp) ?_
                refine FL.one (v := .int .u64 _) rfl pl54_7 rfl (by first | decide | simp) ?_
                refine FL.one (v := .string _) rfl pl54_5 rfl (by first | decide | simp) ?_
                exact FL.nil
               refine fk (i := 24) (by kernel_rfl) rfl rfl rfl ?_
               refine bsl (sz := 8) (out := ?o5) H Tryz.underlying22 ze54 sz54_8 (by decide) ?f5 rfl ?_
               case f5 =>
                refine FS.agg (vs := _) rfl rfl (by first | decide | simp) ?_
                exact FS.nil
               intro b4 w37 hb4 H1 F; replace O := O.new F hb4 H1.look; clear H H1 F; have H := O.sh
               refine nl ?_
               refine then_n ?_
               refine ⟨H.subX, ?_⟩
               refine fk (i := 25) (by kernel_rfl) rfl rfl rfl ?_
               refine apO (zs := [.int .i64 0, .int .u64 0, .int .u64 0, .int .u64 0, .string ⟨#[]⟩, .string ⟨#[]⟩, .string ⟨#[]⟩, .int .u64 0]) (gpE ((i : Int) + 1) (entA (pcs bs (k * 512) 16384) i)).cells O rfl rfl Tryz.underlying22 ri54 (by first | rfl | simp) (cells_look H.look) (List.all_eq_true.1 (GP.cells_one _)) (by simp) (by omega) (by unfold maxLen; omega) rfl ?_
               clear O H; intro D9 cp9 w38 O
               have H := O.sh
               refine nl ?_
               refine then_n ?_
               refine ⟨H.subX, ?_⟩
               refine tk (i := 26) rfl (by kernel_rfl) rfl (H.subX) (fun w' H => r_fa rfl fo24_0) ?_
               refine fb (i := 27) (by kernel_rfl) rfl rfl rfl ?_
               refine st (v := .slice _ _ _) H rfl rfl sc22 rfl (by show 0 + 0 < 5; decide) (by omega) ?_
               intro w95 H95 F95; replace O := O.put F95 H95.look; clear H H95 F95; have H := O.sh
               refine nl ?_
               refine then_n ?_
               refine dn (by kernel_rfl) ?_
               refine in_n ?_
               refine then_n ?_
               refine rg ?_
               refine add rfl rfl (by first | exact w_i64 (by omega) | exact w_i64 (rng_i64 _) | rfl) rfl ?_
               refine mv (v := .int .i64 _) rfl rfl ?_
               refine nl ?_
               refine loop_n ?_
               exact ⟨(i + 1, D9, cp9), (by (try dsimp only); omega), ⟨by omega, by rw [usedP_f hfe, List.flatMap_append, List.length_append]; exact O.subX⟩, (fCX (fN _)), agX⟩
           ·obtain rfl : i = 128 := by omega
            refine ex ?_
            refine then_e ?_
            refine loop_e ?_
            refine in_hit rfl ?_
            refine then_n ?_
            refine sq ?_
            refine rg ?_
            refine la (vs := gtCells D (usedP (pcs bs (k * 512) 16384) 128).length cap 512 (gT (pcs bs (a * 512 + 56) 16)) false false) H rfl ag24_5 rfl rfl rfl ?_
            refine sa (cs' := gtCells D (usedP (pcs bs (k * 512) 16384) 128).length cap 512 (gT (pcs bs (a * 512 + 56) 16)) false false) H rfl rfl ag24_5 rfl rfl (by show 0 + 5 ≤ 5; decide) (by omega) rfl ?_
            intro w72 H1 F; replace O := O.put F H1.look; clear H H1 F; have H := O.sh
            refine asg (v := .bool _) rfl rfl ?_
            refine nl ?_
            refine then_n ?_
            refine rt ?_
            refine finR_r ?_
            have hgT : gatB bs n a = true := by
             unfold gatB sigOk crcOk
             rw [hk, Int.toNat_natCast, decide_eq_true (p := (k : Int) < (n : Int)) (by omega), decide_eq_true (p := 32 ≤ (n : Int) - (k : Int)) (by omega)]
             simp_all [efiL]
            rw [hgT]
            exact ⟨[_, _], ⟨finC rfl (H.look (b := b1)) ag24_5, rfl, trivial⟩, _, rfl, fun _ => ⟨k, D, cap, by first | exact hk | rfl, by omega, rfl, O.sub (List.nil_sublist _)⟩, fun h => Bool.noConfusion h, H.fr⟩
end Go.Proofs.YthcaejaaalkglaaGreatDoor.X
/- Walks of functions, printed by a program of this claim. -/
namespace Go.Proofs.YthcaejaaalkglaaGreatDoor.X
set_option linter.unusedVariables false
set_option linter.unusedSimpArgs false
open Go Go.RowKit
namespace PF
theorem pl64_0 : placeOf Tryz.prog 64 0 = some (0, 1) := by kernel_rfl
theorem pl64_1 : placeOf Tryz.prog 64 1 = some (1, 1) := by kernel_rfl
theorem sz64_11 : sizeB Tryz.prog 64 11 = true := by kernel_rfl
end PF
open PF
set_option maxRecDepth 100000 in
set_option maxHeartbeats 1000000 in
theorem c_mbrDecode (w : World) (b n c : Nat) (T : TypeId) (fr : Nat × Nat) (ds : List UInt8) (hb : w.heap[b]? = some (.cells (Bs ds).toArray T fr)) (hn : 512 ≤ n ∧ n ≤ ds.length ∧ n ≤ c ∧ n ≤ 1000000000) (hs : sigB ds = true) (hf : flagsB ds) : Calls Tryz.prog 35 #[.slice (some ⟨b, 0, none⟩) n c] w (Ret fun v w' => v = .tuple #[.agg ((mpsOf ds).flatMap MP.cells).toArray, .bool true] ∧ Fr [] w w') := by
 refine enterR [.cell 2 65, .tmp 3] Tryz.func35 rfl rfl rfl rfl ?_
 have H := SH.ro1 hb
 have hsa := sig_at (ds := ds) (by omega)
 rw [hs] at hsa
 obtain ⟨hs1, hs2⟩ := of_decide_eq_true hsa.symm
 refine sq ?_
 refine rg ?_
 refine al H ze65 rfl ?_
 clear H; intro b1 w1 hb1 H _
 refine asg (v := .bool _) rfl rfl ?_
 refine nl ?_
 refine then_n ?_
 refine sq ?_
 refine rg ?_
 refine al H ze65 rfl ?_
 clear H; intro b2 w2 hb2 H _
 refine nl ?_
 refine then_n ?_
 refine sq ?_
 refine sq ?_
 refine rg ?_
 refine mv (v := .slice _ _ _) rfl rfl ?_
 refine lnS rfl Tryz.underlying30 rfl ?_
 refine lss rfl rfl rfl ?_
 refine mv (v := .bool _) rfl rfl ?_
 refine spF (t := 10) rfl (by omega) ?_
 refine gy rfl ?_
 refine mv (v := .slice _ _ _) rfl rfl ?_
 refine gy rfl ?_
 refine ia rfl rfl Tryz.underlying30 sz5_1 (by omega) rfl ?_
 refine gy rfl ?_
 (refine ldb H rfl sc5 (by omega) rfl ?_; intro hu1)
 refine gy rfl ?_
 refine neq rfl rfl rfl ?_
 refine pkF (v := .bool _) rfl rfl rfl ?_
 refine mv (v := .bool _) rfl rfl ?_
 refine spF (t := 16) rfl (fun h => h hs1) ?_
 refine gy rfl ?_
 refine mv (v := .slice _ _ _) rfl rfl ?_
 refine gy rfl ?_
 refine ia rfl rfl Tryz.underlying30 sz5_1 (by omega) rfl ?_
 refine gy rfl ?_
 (refine ldb H rfl sc5 (by omega) rfl ?_; intro hu2)
 refine gy rfl ?_
 refine neq rfl rfl rfl ?_
 refine pkF (v := .bool _) rfl rfl rfl ?_
 refine nl ?_
 refine then_n ?_
 refine cF rfl (fun h => h hs2) ?_
 refine sk ?_
 refine then_n ?_
 refine sq ?_
 refine sq ?_
 refine rg ?_
 refine mv (v := .int .i64 _) rfl rfl ?_
 refine nl ?_
 refine then_n ?_
 refine bk ?_
 refine lpM (α := Nat) [3, 5, 6, 23, 24, 25, 26, 27, 28, 29, 30, 31, 32, 33, 34, 35, 36, 37, 38, 39, 40, 41, 42, 43, 44, 45, 46, 47, 48, 49, 50, 51, 52, 53, 54, 55, 56, 57, 58, 59, 60, 61, 62, 63, 64, 65, 66, 67, 68, 69, 70, 71, 72, 73, 74, 75, 76, 77, 78, 79, 80, 81, 82, 83, 84] (fun i => [(23, .int .i64 (i : Int))]) (fun i w' => i ≤ 4 ∧ SH w [] w' [⟨b2, .cells ((arr4 (mpsOf ds) i).flatMap MP.cells).toArray 65 (0, 0), true⟩, ⟨b1, .cells ((List.replicate 4 MP.zero).flatMap MP.cells).toArray 65 (0, 0), true⟩, ⟨b, .cells (Bs ds).toArray T fr, false⟩]) (fun i => 4 - i) 0 ?_ (fCX (fN _)) ?_
 ·exact ⟨by omega, H⟩
 ·rintro i ρx w3 ⟨hi, H⟩
  refine sq ?_
  refine rg ?_
  refine lss rfl rfl rfl ?_
  refine nl ?_
  refine then_n ?_
  refine sq ?_
  refine cd rfl (fun hc2 => ?_) (fun hc2 => ?_)
  ·have hfi : ((ds.getD (446 + 16 * i + (0 : Int).toNat * 1) 0).toNat : Int) = 0 ∨ ((ds.getD (446 + 16 * i + (0 : Int).toNat * 1) 0).toNat : Int) = 128 := hf i (by omega)
   have hal : ((arr4 (mpsOf ds) i).flatMap MP.cells).length = 44 := by rw [flat_len MP.cells_len, arr4_len hi (by omega)]
   refine sk ?_
   refine then_n ?_
   refine sq ?_
   refine bk ?_
   refine sq ?_
   refine rg ?_
   refine mv (v := .int .i64 _) rfl rfl ?_
   refine asg (v := .int .i64 _) rfl rfl ?_
   refine nl ?_
   refine then_n ?_
   refine sq ?_
   refine rg ?_
   refine mv (v := .slice _ _ _) rfl rfl ?_
   refine mv (v := .int .i64 _) rfl rfl ?_
   refine mul rfl rfl (by first | exact w_i64 (by omega) | exact w_i64 (rng_i64 _) | rfl) rfl ?_
   refine add rfl rfl (by first | exact w_i64 (by omega) | exact w_i64 (rng_i64 _) | rfl) rfl ?_
   refine mv (v := .int .i64 _) rfl rfl ?_
   refine mul rfl rfl (by first | exact w_i64 (by omega) | exact w_i64 (rng_i64 _) | rfl) rfl ?_
   refine add rfl rfl (by first | exact w_i64 (by omega) | exact w_i64 (rng_i64 _) | rfl) rfl ?_
   refine sllhN (446 + 16 * i) (16) (c - (446 + 16 * i)) rfl rfl rfl Tryz.underlying30 sz5_1 (by omega) (by omega) rfl ?_
   refine asg (v := .slice _ _ _) rfl rfl ?_
   refine nl ?_
   refine then_n ?_
   refine sq ?_
   refine sq ?_
   refine rg ?_
   refine mv (v := .slice _ _ _) rfl rfl ?_
   refine ia rfl rfl Tryz.underlying30 sz5_1 (by omega) rfl ?_
   (refine ldb H rfl sc5 (by omega) rfl ?_; intro hu3)
   refine neq rfl rfl rfl ?_
   refine mv (v := .bool _) rfl rfl ?_
   refine spd (t := 38) rfl (fun hg3 => ?_) (fun hg3 => ?_)
   ·refine gy rfl ?_
    refine mv (v := .slice _ _ _) rfl rfl ?_
    refine gy rfl ?_
    refine ia rfl rfl Tryz.underlying30 sz5_1 (by omega) rfl ?_
    refine gy rfl ?_
    (refine ldb H rfl sc5 (by omega) rfl ?_; intro hu4)
    refine gy rfl ?_
    refine neq rfl rfl rfl ?_
    refine pkT (v := .bool _) rfl rfl rfl ?_
    refine nl ?_
    refine then_n ?_
    refine cd rfl (fun hc3 => ?_) (fun hc3 => ?_)
    ·omega
    ·refine sk ?_
     refine then_n ?_
     refine dr (by kernel_rfl) ?_
     have H := H.drew
     refine hold (fun w' => SH w [] w' [⟨b2, .cells ((arr4 (mpsOf ds) i).flatMap MP.cells).toArray 65 (0, 0), true⟩, ⟨b1, .cells ((List.replicate 4 MP.zero).flatMap MP.cells).toArray 65 (0, 0), true⟩, ⟨b, .cells (Bs ds).toArray T fr, false⟩]) [39] ?_
     refine tk (i := 0) rfl (by kernel_rfl) rfl (H.subX) (fun w' H => r_mv (v := .int .i64 _) rfl) ?_
     refine tk (i := 1) rfl (by kernel_rfl) rfl (H.subX) (fun w' H => r_mv (v := .int .i64 _) rfl) ?_
     refine tk (i := 2) rfl (by kernel_rfl) rfl (H.subX) (fun w' H => r_add rfl rfl (by first | exact w_i64 (by omega) | exact w_i64 (rng_i64 _) | rfl)) ?_
     refine tk (i := 3) rfl (by kernel_rfl) rfl (H.subX) (fun w' H => r_mv (v := .slice _ _ _) rfl) ?_
     refine tk (i := 4) rfl (by kernel_rfl) rfl (H.subX) (fun w' H => r_ia rfl rfl Tryz.underlying30 sz5_1 (by omega)) ?_
     refine tk (i := 5) rfl (by kernel_rfl) rfl (H.subX) (fun w' H => r_ldb H rfl sc5 (by omega)) ?_
     refine tk (i := 6) rfl (by kernel_rfl) rfl (H.subX) (fun w' H => r_eql rfl rfl) ?_
     refine tk (i := 7) rfl (by kernel_rfl) rfl (H.subX) (fun w' H => r_mv (v := .slice _ _ _) rfl) ?_
     refine tk (i := 8) rfl (by kernel_rfl) rfl (H.subX) (fun w' H => r_ia rfl rfl Tryz.underlying30 sz5_1 (by omega)) ?_
     refine tk (i := 9) rfl (by kernel_rfl) rfl (H.subX) (fun w' H => r_ldb H rfl sc5 (by omega)) ?_
     refine tk (i := 10) rfl (by kernel_rfl) rfl (H.subX) (fun w' H => r_mv (v := .slice _ _ _) rfl) ?_
     refine tk (i := 11) rfl (by kernel_rfl) rfl (H.subX) (fun w' H => r_sllh rfl rfl rfl Tryz.underlying30 sz5_1 (by first | trivial | omega | (simp; omega))) ?_
     refine tk (i := 14) rfl (by kernel_rfl) rfl (H.subX) (fun w' H => r_mv (v := .slice _ _ _) rfl) ?_
     refine tk (i := 15) rfl (by kernel_rfl) rfl (H.subX) (fun w' H => r_sllh rfl rfl rfl Tryz.underlying30 sz5_1 (by first | trivial | omega | (simp; omega))) ?_
     refine tk (i := 18) rfl (by kernel_rfl) rfl (H.subX) (fun w' H => r_mv (v := .slice _ _ _) rfl) ?_
     refine tk (i := 19) rfl (by kernel_rfl) rfl (H.subX) (fun w' H => r_ia rfl rfl Tryz.underlying30 sz5_1 (by omega)) ?_
     refine tk (i := 20) rfl (by kernel_rfl) rfl (H.subX) (fun w' H => r_ldb H rfl sc5 (by omega)) ?_
     refine tk (i := 21) rfl (by kernel_rfl) rfl (H.subX) (fun w' H => r_mv (v := .slice _ _ _) rfl) ?_
     refine tk (i := 22) rfl (by kernel_rfl) rfl (H.subX) (fun w' H => r_ia rfl rfl Tryz.underlying30 sz5_1 (by omega)) ?_
     refine tk (i := 23) rfl (by kernel_rfl) rfl (H.subX) (fun w' H => r_ldb H rfl sc5 (by omega)) ?_
     refine tk (i := 24) rfl (by kernel_rfl) rfl (H.subX) (fun w' H => r_mv (v := .slice _ _ _) rfl) ?_
     refine tk (i := 25) rfl (by kernel_rfl) rfl (H.subX) (fun w' H => r_ia rfl rfl Tryz.underlying30 sz5_1 (by omega)) ?_
     refine tk (i := 26) rfl (by kernel_rfl) rfl (H.subX) (fun w' H => r_ldb H rfl sc5 (by omega)) ?_
     refine tk (i := 27) rfl (by kernel_rfl) rfl (H.subX) (fun w' H => r_mv (v := .slice _ _ _) rfl) ?_
     refine tk (i := 28) rfl (by kernel_rfl) rfl (H.subX) (fun w' H => r_ia rfl rfl Tryz.underlying30 sz5_1 (by omega)) ?_
     refine tk (i := 29) rfl (by kernel_rfl) rfl (H.subX) (fun w' H => r_ldb H rfl sc5 (by omega)) ?_
     refine tk (i := 30) rfl (by kernel_rfl) rfl (H.subX) (fun w' H => r_mv (v := .slice _ _ _) rfl) ?_
     refine tk (i := 31) rfl (by kernel_rfl) rfl (H.subX) (fun w' H => r_ia rfl rfl Tryz.underlying30 sz5_1 (by omega)) ?_
     refine tk (i := 32) rfl (by kernel_rfl) rfl (H.subX) (fun w' H => r_ldb H rfl sc5 (by omega)) ?_
     refine tk (i := 33) rfl (by kernel_rfl) rfl (H.subX) (fun w' H => r_mv (v := .slice _ _ _) rfl) ?_
     refine tk (i := 34) rfl (by kernel_rfl) rfl (H.subX) (fun w' H => r_ia rfl rfl Tryz.underlying30 sz5_1 (by omega)) ?_
     refine tk (i := 35) rfl (by kernel_rfl) rfl (H.subX) (fun w' H => r_ldb H rfl sc5 (by omega)) ?_
     refine tkbu (out := ?o13) (i := 36) rfl (by kernel_rfl) rfl (H.subX) ze62 bo62 ?f13 ?_
     case f13 =>
      refine FL.one (v := .int .u8 _) rfl pl62_0 rfl (by first | decide | simp) ?_
      refine FL.one (v := .int .u8 _) rfl pl62_1 rfl (by first | decide | simp) ?_
      refine FL.one (v := .int .u8 _) rfl pl62_2 rfl (by first | decide | simp) ?_
      refine FL.one (v := .int .u8 _) rfl pl62_3 rfl (by first | decide | simp) ?_
      refine FL.one (v := .int .u8 _) rfl pl62_4 rfl (by first | decide | simp) ?_
      refine FL.one (v := .int .u8 _) rfl pl62_5 rfl (by first | decide | simp) ?_
      exact FL.nil
     refine fk (i := 12) (by kernel_rfl) rfl rfl rfl ?_
     refine cl ca58 (c_le _ _ _ _ _ _ _ _ H.look (by omega) (by decide)) rfl ?_
     rintro _ w4 ⟨rfl, F⟩
     replace H := H.keep F; clear F
     refine nl ?_
     refine then_n ?_
     refine ⟨H.subX, ?_⟩
     refine tk (i := 13) rfl (by kernel_rfl) rfl (H.subX) (fun w' H => r_cvi (c := leV ((ds.drop (446 + 16 * i + 8)).take 4)) rfl rfl Tryz.underlying58 (w_u32 (le4_rng _))) ?_
     refine fk (i := 16) (by kernel_rfl) rfl rfl rfl ?_
     refine cl ca58 (c_le _ _ _ _ _ _ _ _ H.look (by omega) (by decide)) rfl ?_
     rintro _ w5 ⟨rfl, F⟩
     replace H := H.keep F; clear F
     refine nl ?_
     refine then_n ?_
     refine ⟨H.subX, ?_⟩
     refine tk (i := 17) rfl (by kernel_rfl) rfl (H.subX) (fun w' H => r_cvi (c := leV ((ds.drop (446 + 16 * i + 12)).take 4)) rfl rfl Tryz.underlying58 (w_u32 (le4_rng _))) ?_
     refine tkbu (out := ?o14) (i := 37) rfl (by kernel_rfl) rfl (H.subX) ze64 bo64 ?f14 ?_
     case f14 =>
      refine FL.one (v := .int .i64 _) rfl pl64_0 rfl (by first | decide | simp) ?_
      refine FL.one (v := .bool _) rfl pl64_1 rfl (by first | decide | simp) ?_
      refine FL.one (v := .int .u8 _) rfl pl64_2 rfl (by first | decide | simp) ?_
      refine FL.one (v := .int .u32 _) rfl pl64_3 rfl (by first | decide | simp) ?_
      refine FL.one (v := .int .u32 _) rfl pl64_4 rfl (by first | decide | simp) ?_
      refine FL.agg rfl pl64_5 rfl (by first | decide | simp) ?_
      exact FL.nil
     refine tk (i := 38) rfl (by kernel_rfl) rfl (H.subX) (fun w' H => r_iy rfl rfl Tryz.underlying65 sz64_11 (by omega)) ?_
     refine fb (i := 39) (by kernel_rfl) rfl rfl rfl ?_
     refine sa (vs := (mpAt ds (446 + 16 * i) (i + 1)).cells) (cs' := (arr4 (mpsOf ds) (i + 1)).flatMap MP.cells) H rfl rfl ag64_11 rfl rfl (by rw [hal]; omega) (by omega) (by rw [show 0 + (i : Int).toNat * 11 = i * 11 by omega]; exact arr4_put (mpsOf_get (by omega)) (by omega)) ?_
     clear H; intro w90 H _
     refine nl ?_
     refine then_n ?_
     refine dn (by kernel_rfl) ?_
     refine in_n ?_
     refine then_n ?_
     refine rg ?_
     refine add rfl rfl (by first | exact w_i64 (by omega) | exact w_i64 (rng_i64 _) | rfl) rfl ?_
     refine mv (v := .int .i64 _) rfl rfl ?_
     refine nl ?_
     refine loop_n ?_
     exact ⟨i + 1, (by (try dsimp only); omega), ⟨by omega, H⟩, (fCX (fN _)), agX⟩
   ·refine gn rfl rfl ?_
    refine gn rfl rfl ?_
    refine gn rfl rfl ?_
    refine gn rfl rfl ?_
    refine pkF (v := .bool _) rfl rfl rfl ?_
    refine nl ?_
    refine then_n ?_
    refine cbF rfl rfl ?_
    refine sk ?_
    refine then_n ?_
    refine dr (by kernel_rfl) ?_
    have H := H.drew
    refine hold (fun w' => SH w [] w' [⟨b2, .cells ((arr4 (mpsOf ds) i).flatMap MP.cells).toArray 65 (0, 0), true⟩, ⟨b1, .cells ((List.replicate 4 MP.zero).flatMap MP.cells).toArray 65 (0, 0), true⟩, ⟨b, .cells (Bs ds).toArray T fr, false⟩]) [39] ?_
    refine tk (i := 0) rfl (by kernel_rfl) rfl (H.subX) (fun w' H => r_mv (v := .int .i64 _) rfl) ?_
    refine tk (i := 1) rfl (by kernel_rfl) rfl (H.subX) (fun w' H => r_mv (v := .int .i64 _) rfl) ?_
    refine tk (i := 2) rfl (by kernel_rfl) rfl (H.subX) (fun w' H => r_add rfl rfl (by first | exact w_i64 (by omega) | exact w_i64 (rng_i64 _) | rfl)) ?_
    refine tk (i := 3) rfl (by kernel_rfl) rfl (H.subX) (fun w' H => r_mv (v := .slice _ _ _) rfl) ?_
    refine tk (i := 4) rfl (by kernel_rfl) rfl (H.subX) (fun w' H => r_ia rfl rfl Tryz.underlying30 sz5_1 (by omega)) ?_
    refine tk (i := 5) rfl (by kernel_rfl) rfl (H.subX) (fun w' H => r_ldb H rfl sc5 (by omega)) ?_
    refine tk (i := 6) rfl (by kernel_rfl) rfl (H.subX) (fun w' H => r_eql rfl rfl) ?_
    refine tk (i := 7) rfl (by kernel_rfl) rfl (H.subX) (fun w' H => r_mv (v := .slice _ _ _) rfl) ?_
    refine tk (i := 8) rfl (by kernel_rfl) rfl (H.subX) (fun w' H => r_ia rfl rfl Tryz.underlying30 sz5_1 (by omega)) ?_
    refine tk (i := 9) rfl (by kernel_rfl) rfl (H.subX) (fun w' H => r_ldb H rfl sc5 (by omega)) ?_
    refine tk (i := 10) rfl (by kernel_rfl) rfl (H.subX) (fun w' H => r_mv (v := .slice _ _ _) rfl) ?_
    refine tk (i := 11) rfl (by kernel_rfl) rfl (H.subX) (fun w' H => r_sllh rfl rfl rfl Tryz.underlying30 sz5_1 (by first | trivial | omega | (simp; omega))) ?_
    refine tk (i := 14) rfl (by kernel_rfl) rfl (H.subX) (fun w' H => r_mv (v := .slice _ _ _) rfl) ?_
    refine tk (i := 15) rfl (by kernel_rfl) rfl (H.subX) (fun w' H => r_sllh rfl rfl rfl Tryz.underlying30 sz5_1 (by first | trivial | omega | (simp; omega))) ?_
    refine tk (i := 18) rfl (by kernel_rfl) rfl (H.subX) (fun w' H => r_mv (v := .slice _ _ _) rfl) ?_
    refine tk (i := 19) rfl (by kernel_rfl) rfl (H.subX) (fun w' H => r_ia rfl rfl Tryz.underlying30 sz5_1 (by omega)) ?_
    refine tk (i := 20) rfl (by kernel_rfl) rfl (H.subX) (fun w' H => r_ldb H rfl sc5 (by omega)) ?_
    refine tk (i := 21) rfl (by kernel_rfl) rfl (H.subX) (fun w' H => r_mv (v := .slice _ _ _) rfl) ?_
    refine tk (i := 22) rfl (by kernel_rfl) rfl (H.subX) (fun w' H => r_ia rfl rfl Tryz.underlying30 sz5_1 (by omega)) ?_
    refine tk (i := 23) rfl (by kernel_rfl) rfl (H.subX) (fun w' H => r_ldb H rfl sc5 (by omega)) ?_
    refine tk (i := 24) rfl (by kernel_rfl) rfl (H.subX) (fun w' H => r_mv (v := .slice _ _ _) rfl) ?_
    refine tk (i := 25) rfl (by kernel_rfl) rfl (H.subX) (fun w' H => r_ia rfl rfl Tryz.underlying30 sz5_1 (by omega)) ?_
    refine tk (i := 26) rfl (by kernel_rfl) rfl (H.subX) (fun w' H => r_ldb H rfl sc5 (by omega)) ?_
    refine tk (i := 27) rfl (by kernel_rfl) rfl (H.subX) (fun w' H => r_mv (v := .slice _ _ _) rfl) ?_
    refine tk (i := 28) rfl (by kernel_rfl) rfl (H.subX) (fun w' H => r_ia rfl rfl Tryz.underlying30 sz5_1 (by omega)) ?_
    refine tk (i := 29) rfl (by kernel_rfl) rfl (H.subX) (fun w' H => r_ldb H rfl sc5 (by omega)) ?_
    refine tk (i := 30) rfl (by kernel_rfl) rfl (H.subX) (fun w' H => r_mv (v := .slice _ _ _) rfl) ?_
    refine tk (i := 31) rfl (by kernel_rfl) rfl (H.subX) (fun w' H => r_ia rfl rfl Tryz.underlying30 sz5_1 (by omega)) ?_
    refine tk (i := 32) rfl (by kernel_rfl) rfl (H.subX) (fun w' H => r_ldb H rfl sc5 (by omega)) ?_
    refine tk (i := 33) rfl (by kernel_rfl) rfl (H.subX) (fun w' H => r_mv (v := .slice _ _ _) rfl) ?_
    refine tk (i := 34) rfl (by kernel_rfl) rfl (H.subX) (fun w' H => r_ia rfl rfl Tryz.underlying30 sz5_1 (by omega)) ?_
    refine tk (i := 35) rfl (by kernel_rfl) rfl (H.subX) (fun w' H => r_ldb H rfl sc5 (by omega)) ?_
    refine tkbu (out := ?o23) (i := 36) rfl (by kernel_rfl) rfl (H.subX) ze62 bo62 ?f23 ?_
    case f23 =>
     refine FL.one (v := .int .u8 _) rfl pl62_0 rfl (by first | decide | simp) ?_
     refine FL.one (v := .int .u8 _) rfl pl62_1 rfl (by first | decide | simp) ?_
     refine FL.one (v := .int .u8 _) rfl pl62_2 rfl (by first | decide | simp) ?_
     refine FL.one (v := .int .u8 _) rfl pl62_3 rfl (by first | decide | simp) ?_
     refine FL.one (v := .int .u8 _) rfl pl62_4 rfl (by first | decide | simp) ?_
     refine FL.one (v := .int .u8 _) rfl pl62_5 rfl (by first | decide | simp) ?_
     exact FL.nil
    refine fk (i := 12) (by kernel_rfl) rfl rfl rfl ?_
    refine cl ca58 (c_le _ _ _ _ _ _ _ _ H.look (by omega) (by decide)) rfl ?_
    rintro _ w6 ⟨rfl, F⟩
    replace H := H.keep F; clear F
    refine nl ?_
    refine then_n ?_
    refine ⟨H.subX, ?_⟩
    refine tk (i := 13) rfl (by kernel_rfl) rfl (H.subX) (fun w' H => r_cvi (c := leV ((ds.drop (446 + 16 * i + 8)).take 4)) rfl rfl Tryz.underlying58 (w_u32 (le4_rng _))) ?_
    refine fk (i := 16) (by kernel_rfl) rfl rfl rfl ?_
    refine cl ca58 (c_le _ _ _ _ _ _ _ _ H.look (by omega) (by decide)) rfl ?_
    rintro _ w7 ⟨rfl, F⟩
    replace H := H.keep F; clear F
    refine nl ?_
    refine then_n ?_
    refine ⟨H.subX, ?_⟩
    refine tk (i := 17) rfl (by kernel_rfl) rfl (H.subX) (fun w' H => r_cvi (c := leV ((ds.drop (446 + 16 * i + 12)).take 4)) rfl rfl Tryz.underlying58 (w_u32 (le4_rng _))) ?_
    refine tkbu (out := ?o24) (i := 37) rfl (by kernel_rfl) rfl (H.subX) ze64 bo64 ?f24 ?_
    case f24 =>
     refine FL.one (v := .int .i64 _) rfl pl64_0 rfl (by first | decide | simp) ?_
     refine FL.one (v := .bool _) rfl pl64_1 rfl (by first | decide | simp) ?_
     refine FL.one (v := .int .u8 _) rfl pl64_2 rfl (by first | decide | simp) ?_
     refine FL.one (v := .int .u32 _) rfl pl64_3 rfl (by first | decide | simp) ?_
     refine FL.one (v := .int .u32 _) rfl pl64_4 rfl (by first | decide | simp) ?_
     refine FL.agg rfl pl64_5 rfl (by first | decide | simp) ?_
     exact FL.nil
    refine tk (i := 38) rfl (by kernel_rfl) rfl (H.subX) (fun w' H => r_iy rfl rfl Tryz.underlying65 sz64_11 (by omega)) ?_
    refine fb (i := 39) (by kernel_rfl) rfl rfl rfl ?_
    refine sa (vs := (mpAt ds (446 + 16 * i) (i + 1)).cells) (cs' := (arr4 (mpsOf ds) (i + 1)).flatMap MP.cells) H rfl rfl ag64_11 rfl rfl (by rw [hal]; omega) (by omega) (by rw [show 0 + (i : Int).toNat * 11 = i * 11 by omega]; exact arr4_put (mpsOf_get (by omega)) (by omega)) ?_
    clear H; intro w90 H _
    refine nl ?_
    refine then_n ?_
    refine dn (by kernel_rfl) ?_
    refine in_n ?_
    refine then_n ?_
    refine rg ?_
    refine add rfl rfl (by first | exact w_i64 (by omega) | exact w_i64 (rng_i64 _) | rfl) rfl ?_
    refine mv (v := .int .i64 _) rfl rfl ?_
    refine nl ?_
    refine loop_n ?_
    exact ⟨i + 1, (by (try dsimp only); omega), ⟨by omega, H⟩, (fCX (fN _)), agX⟩
  ·obtain rfl : i = 4 := by omega
   have hfin : ((arr4 (mpsOf ds) 4).flatMap MP.cells).take 44 = (mpsOf ds).flatMap MP.cells := rfl
   refine ex ?_
   refine then_e ?_
   refine loop_e ?_
   refine in_hit rfl ?_
   refine then_n ?_
   refine sq ?_
   refine rg ?_
   refine la (vs := (mpsOf ds).flatMap MP.cells) H rfl ag65_44 rfl (by rw [List.drop_zero]; exact hfin) rfl ?_
   refine sa (cs' := (mpsOf ds).flatMap MP.cells) H rfl rfl ag65_44 rfl (List.all_eq_true.2 mp_one) (by decide) (by omega) (List.append_nil _) ?_
   clear H; intro w91 H _
   refine asg (v := .bool _) rfl rfl ?_
   refine nl ?_
   refine then_n ?_
   refine rt ?_
   refine finR_r ?_
   exact ⟨[_, _], ⟨finC rfl (H.look (b := b1)) ag65_44, rfl, trivial⟩, rfl, H.fr⟩
end Go.Proofs.YthcaejaaalkglaaGreatDoor.X
/- Walks of functions, printed by a program of this claim. -/
namespace Go.Proofs.YthcaejaaalkglaaGreatDoor.X
set_option linter.unusedVariables false
set_option linter.unusedSimpArgs false
open Go Go.RowKit
namespace PF
theorem ca34 : callable Tryz.prog 34 = true := by kernel_rfl
theorem ca35 : callable Tryz.prog 35 = true := by kernel_rfl
end PF
open PF
set_option maxRecDepth 100000 in
set_option maxHeartbeats 2000000 in
theorem c_gptDecode (w : World) (q n c : Nat) (T : TypeId) (fr : Nat × Nat) (bs : List UInt8) (hb : w.heap[q]? = some (.cells (Bs bs).toArray T fr)) (hn : 80 ≤ n ∧ n ≤ 1000000) (hl : n * 512 ≤ bs.length) (hc : n * 512 ≤ c) (hsg : sigB bs = true) (hfl : flagsB bs) : Calls Tryz.prog 14 #[.slice (some ⟨q, 0, none⟩) (n * 512) c, .int .i64 512] w (Ret fun v w' => ∃ D m cap s g X a rb b, v = .tuple #[.agg (gtCells D m cap s g (b && decide (((bs.getD 450 0).toNat : Int) = 238)) rb).toArray, .bool b] ∧ OR 54 8 w [] w' [] D m cap X ∧ ((gatB bs n 1 = true ∧ a = 1 ∧ rb = false) ∨ (gatB bs n 1 = false ∧ a = n - 1 ∧ rb = b)) ∧ b = gatB bs n a ∧ GatIs bs n a D m cap s g X) := by
 refine enterR [.cell 4 24, .tmp 5] Tryz.func14 rfl rfl rfl rfl ?_
 have H := SH.ro1 hb
 refine sq ?_
 refine rg ?_
 refine al H ze24 rfl ?_
 clear H; intro b1 w1 hb1 H _
 refine asg (v := .bool _) rfl rfl ?_
 refine nl ?_
 refine then_n ?_
 refine sq ?_
 refine rg ?_
 refine mv (v := .slice _ _ _) rfl rfl ?_
 refine mv (v := .int .i64 _) rfl rfl ?_
 refine cl ca34 (c_gptAt _ q n c 1 T fr bs (H.look (b := q)) hn hl hc (by omega)) rfl ?_
 rintro _ w2 ⟨v1, rfl, r1, r2, FR⟩
 obtain ⟨D1, m1, cap1, s1, g1, X1, rfl, O1, hI1⟩ := gat_is r1 r2 FR
 clear r1 r2 FR
 replace O1 := O1.joinN H (by simp)
 simp only [List.append_nil] at O1
 replace H := O1.sh
 refine mv (v := .tuple _) rfl rfl ?_
 refine xt rfl rfl rfl ?_
 refine xt rfl rfl rfl ?_
 refine al H ze24 rfl ?_
 intro b2 w3 hb2 H1 F; replace O1 := O1.new F hb2 H1.look; clear H H1 F; have H := O1.sh
 refine sa (cs' := gtCells D1 m1 cap1 s1 g1 false false) H rfl rfl ag24_5 rfl rfl (by show 0 + 5 ≤ 5; decide) (by omega) rfl ?_
 intro w91 H91 F91; replace O1 := O1.put F91 H91.look; clear H H91 F91; have H := O1.sh
 refine asg (v := .bool _) rfl rfl ?_
 refine nl ?_
 refine then_n ?_
 refine ctM (α := Option Addr × Nat × Nat × Int × List UInt8 × List Value × Nat × Bool × Bool) [7, 16, 17, 18, 19, 20, 21, 22, 23, 24, 25, 26, 27, 28, 29, 30, 31] (fun (D, m, cap, s, g, X, a, rb, b) => [(7, .bool b)]) (fun (D, m, cap, s, g, X, a, rb, b) w' => OR 54 8 w [] w' [⟨b2, .cells (gtCells D m cap s g false rb).toArray 24 (0, 0), true⟩, ⟨b1, .cells (gtCells none 0 0 0 [] false false).toArray 24 (0, 0), true⟩, ⟨q, .cells (Bs bs).toArray T fr, false⟩] D m cap X ∧ ((gatB bs n 1 = true ∧ a = 1 ∧ rb = false) ∨ (gatB bs n 1 = false ∧ a = n - 1 ∧ rb = b)) ∧ b = gatB bs n a ∧ GatIs bs n a D m cap s g X) ?_ ?_
 ·refine sq ?_
  refine rg ?_
  refine mv (v := .bool _) rfl rfl ?_
  refine unot rfl rfl ?_
  refine nl ?_
  refine then_n ?_
  refine cn rfl (fun hc1 => ?_) (fun hc1 => ?_)
  ·refine sq ?_
   refine rg ?_
   refine mv (v := .slice _ _ _) rfl rfl ?_
   refine mv (v := .int .i64 _) rfl rfl ?_
   refine mv (v := .slice _ _ _) rfl rfl ?_
   refine lnS rfl Tryz.underlying30 rfl ?_
   refine mv (v := .int .i64 _) rfl rfl ?_
   refine quo (c := (n : Int)) rfl rfl (by omega) (by omega) (by rw [w_i64 (by omega)]; omega) rfl ?_
   refine cvi rfl rfl Tryz.underlying28 (by first | exact w_u64 (by omega) | exact w_u64 (rng_u64 _) | exact m_u64 _) rfl ?_
   refine sub (c := ((n - 1 : Nat) : Int)) rfl rfl (by rw [w_u64 (by omega)]; omega) rfl ?_
   refine cl ca34 (c_gptAt _ q n c (n - 1) T fr bs (H.look (b := q)) hn hl hc (by omega)) rfl ?_
   rintro _ w4 ⟨v1, rfl, r1, r2, FR⟩
   obtain ⟨D2, m2, cap2, s2, g2, X2, rfl, O2, hI2⟩ := gat_is r1 r2 FR
   clear r1 r2 FR
   replace O2 := O2.joinN H (by simp)
   simp only [List.append_nil] at O2
   replace H := O2.sh
   refine mv (v := .tuple _) rfl rfl ?_
   refine xt rfl rfl rfl ?_
   refine xt rfl rfl rfl ?_
   refine sa (cs' := gtCells D2 m2 cap2 s2 g2 false false) H rfl rfl ag24_5 rfl rfl (by show 0 + 5 ≤ 5; decide) (by omega) rfl ?_
   intro w91 H91 F91; replace O2 := O2.put F91 H91.look; clear H H91 F91; have H := O2.sh
   refine asg (v := .bool _) rfl rfl ?_
   refine nl ?_
   refine then_n ?_
   refine rg ?_
   refine mv (v := .bool _) rfl rfl ?_
   refine fa rfl fo24_4 rfl ?_
   refine st (v := .bool _) H rfl rfl sc4 rfl (by show 0 + 4 < 5; decide) (by omega) ?_
   intro w92 H92 F92; replace O2 := O2.put F92 H92.look; clear H H92 F92; have H := O2.sh
   refine nl ?_
   refine then_n ?_
   exact ⟨(D2, m2, cap2, s2, g2, X2, n - 1, _, _), ⟨O2.subX, .inr ⟨by simpa using hc1, rfl, rfl⟩, rfl, hI2⟩, (fCX (fN _)), agX⟩
  ·refine sk ?_
   refine then_n ?_
   exact ⟨(D1, m1, cap1, s1, g1, X1, 1, false, _), ⟨O1.subX, .inl ⟨by simpa using hc1, rfl, rfl⟩, rfl, hI1⟩, (fCX (fN _)), agX⟩
 ·rintro ⟨D, m, cap, s, g, X, a, rb, b⟩ ρx w5 ⟨O, hcs, hbb, hI⟩
  have H := O.sh
  refine sq ?_
  refine sq ?_
  refine rg ?_
  refine mv (v := .bool _) rfl rfl ?_
  refine nl ?_
  refine then_n ?_
  refine cn rfl (fun hc2 => ?_) (fun hc2 => ?_)
  ·refine sq ?_
   refine rg ?_
   refine mv (v := .slice _ _ _) rfl rfl ?_
   refine cl ca35 (c_mbrDecode _ q _ c T fr bs (H.look (b := q)) ⟨by omega, hl, hc, by omega⟩ hsg hfl) rfl ?_
   rintro _ w6 ⟨rfl, F⟩
   replace H := H.keep F; replace O := O.keep F; clear F
   refine mv (v := .tuple _) rfl rfl ?_
   refine xt rfl rfl rfl ?_
   refine xt rfl rfl rfl ?_
   refine al H ze65 rfl ?_
   intro b3 w7 hb3 H1 F; replace O := O.new F hb3 H1.look; clear H H1 F; have H := O.sh
   refine sa H rfl rfl ag65_44 rfl rfl (by decide) (by omega) rfl ?_
   intro w8 H1 F; replace O := O.put F H1.look; clear H H1 F; have H := O.sh
   refine asg (v := .bool _) rfl rfl ?_
   refine nl ?_
   refine then_n ?_
   refine rg ?_
   refine mv (v := .bool _) rfl rfl ?_
   refine mv (v := .bool _) rfl rfl ?_
   refine spL (t := 39) (b := true) rfl ?_
   refine gy rfl ?_
   refine iy rfl rfl Tryz.underlying65 sz64_11 (by omega) rfl ?_
   refine gy rfl ?_
   refine fa rfl fo64_2 rfl ?_
   refine gy rfl ?_
   refine ld H rfl sc5 rfl rfl ?_
   refine gy rfl ?_
   refine eql rfl rfl rfl ?_
   refine pkT (v := .bool _) rfl rfl rfl ?_
   refine fa rfl fo24_3 rfl ?_
   refine st (v := .bool _) H rfl rfl sc4 rfl (by show 0 + 3 < 5; decide) (by omega) ?_
   intro w93 H93 F93; replace O := O.put F93 H93.look; clear H H93 F93; have H := O.sh
   refine nl ?_
   refine then_n ?_
   refine sq ?_
   refine rg ?_
   refine la H rfl ag24_5 rfl rfl rfl ?_
   refine mv (v := .bool _) rfl rfl ?_
   refine sa H rfl rfl ag24_5 rfl rfl (by show 0 + 5 ≤ 5; decide) (by omega) rfl ?_
   intro w94 H94 F94; replace O := O.put F94 H94.look; clear H H94 F94; have H := O.sh
   refine asg (v := .bool _) rfl rfl ?_
   refine nl ?_
   refine then_n ?_
   refine rt ?_
   refine finR_r ?_
   subst hc2
   exact ⟨[_, _], ⟨finC rfl (H.look (b := b1)) ag24_5, rfl, trivial⟩, D, m, cap, s, g, X, a, rb, true, rfl, O.sub (List.nil_sublist _), hcs, hbb, hI⟩
  ·refine sk ?_
   refine then_n ?_
   refine sq ?_
   refine rg ?_
   refine la H rfl ag24_5 rfl rfl rfl ?_
   refine mv (v := .bool _) rfl rfl ?_
   refine sa H rfl rfl ag24_5 rfl rfl (by show 0 + 5 ≤ 5; decide) (by omega) rfl ?_
   intro w94 H94 F94; replace O := O.put F94 H94.look; clear H H94 F94; have H := O.sh
   refine asg (v := .bool _) rfl rfl ?_
   refine nl ?_
   refine then_n ?_
   refine rt ?_
   refine finR_r ?_
   obtain rfl : b = false := by simpa using hc2
   exact ⟨[_, _], ⟨finC rfl (H.look (b := b1)) ag24_5, rfl, trivial⟩, D, m, cap, s, g, X, a, rb, false, rfl, O.sub (List.nil_sublist _), hcs, hbb, hI⟩
end Go.Proofs.YthcaejaaalkglaaGreatDoor.X
/- A disk on which a table stands, as the specification reads it. -/
namespace Go.Proofs.YthcaejaaalkglaaGreatDoor.X
set_option linter.unusedVariables false
open Go Go.RowKit
theorem pcs_app {D Z : List UInt8} {o k : Nat} (h : o + k ≤ D.length) : pcs (D ++ Z) o k = pcs D o k := by
 unfold pcs
 rw [List.drop_append_of_le_length (by omega), List.take_append_of_le_length (by rw [List.length_drop]; omega)]
theorem fld_app {D Z : List UInt8} {o k : Nat} (h : o + k ≤ D.length) : fld (D ++ Z) o k = fld D o k := by unfold fld; rw [pcs_app h]
theorem hdr_app {D Z : List UInt8} {A : Nat} (h : A + 92 ≤ D.length) : hdrGood (D ++ Z) A = hdrGood D A := by
 unfold hdrGood sigOk crcOk
 rw [pcs_app (by omega), pcs_app (by omega), pcs_app (by omega), pcs_app (by omega), pcs_app (by omega), fld_app (by omega)]
theorem gat_of {bs : List UInt8} {n a k : Nat} (h1 : hdrGood bs (a * 512) = true) (h2 : fld bs (a * 512 + 24) 8 = (a : Int)) (h3 : fld bs (a * 512 + 84) 4 = 128) (h4 : fld bs (a * 512 + 80) 4 = 128) (h5 : fld bs (a * 512 + 72) 8 = (k : Int)) (h6 : k + 32 ≤ n) (h7 : crc32 (pcs bs (k * 512) 16384) = fld bs (a * 512 + 88) 4) : gatB bs n a = true := by
 unfold hdrGood at h1
 simp only [Bool.and_eq_true, decide_eq_true_eq] at h1
 obtain ⟨⟨⟨⟨b1, b2⟩, b3⟩, b4⟩, b5⟩ := h1
 have b6 : fld bs (a * 512 + 12) 4 = 92 := by unfold fld; rw [b3]; decide
 unfold gatB
 rw [b1, b5, h2, h3, h4, h5, b6, Int.toNat_natCast, h7, decide_eq_true (p := (k : Int) < (n : Int)) (by omega), decide_eq_true (p := 32 ≤ (n : Int) - (k : Int)) (by omega)]
 simp
theorem prot_mbr {bs : List UInt8} {m : Int} (hl : 512 ≤ bs.length) (h : protB (pcs bs 0 512) m = true) : sigB bs = true ∧ flagsB bs ∧ ((bs.getD 450 0).toNat : Int) = 238 := by
 have hg : ∀ j, j < 512 → (pcs bs 0 512).getD j 0 = bs.getD j 0 := fun j hj => by
  unfold pcs
  simp [List.getD, hj]
 unfold protB at h
 simp only [Bool.and_eq_true, decide_eq_true_eq] at h
 obtain ⟨⟨⟨⟨⟨b1, b2⟩, b3⟩, b4⟩, b5⟩, b6⟩ := h
 rw [hg _ (by decide)] at b3 b4
 refine ⟨?_, ?_, by omega⟩
 ·rw [pcs0 (by decide)] at b1
  exact decide_eq_true b1
 ·intro i hi
  left
  rcases i with _ | i
  ·simpa using congrArg (Nat.cast (R := Int)) b3
  ·have b7 := List.all_eq_true.1 b2 i (by simp; omega)
   have b8 := of_decide_eq_true b7 0 (by rw [pcs_len (by rw [pcs_len (by omega)]; omega)]; decide)
   rw [pcs0 (by omega)] at b8
   have e : (pcs bs (462 + 16 * i) 16).getD 0 0 = bs.getD (462 + 16 * i) 0 := by
    unfold pcs
    simp [List.getD]
   rw [e] at b8
   rw [show 446 + 16 * (i + 1) = 462 + 16 * i by omega, b8]; rfl
section st
variable {D Z : List UInt8} {n : Nat} {g : List UInt8} {ps : List GP}
theorem Stands.gat (S : Stands D n g ps) (hn : 80 ≤ n ∧ n ≤ 1000000) : gatB (D ++ Z) n 1 = true ∧ fld (D ++ Z) (1 * 512 + 72) 8 = ((2 : Nat) : Int) ∧ pcs (D ++ Z) (2 * 512) 16384 = arrB ps ∧ pcs (D ++ Z) (1 * 512 + 56) 16 = gB g := by
 have hl := S.len
 have a1 : pcs (D ++ Z) (2 * 512) 16384 = arrB ps := by rw [pcs_app (by omega)]; exact S.a1
 refine ⟨gat_of (k := 2) (by rw [hdr_app (by omega)]; exact S.g1) (by rw [fld_app (by omega)]; exact S.m1) (by rw [fld_app (by omega)]; exact S.f1.2.2) (by rw [fld_app (by omega)]; exact S.f1.2.1) (by rw [fld_app (by omega)]; exact S.f1.1) (by omega) (by rw [a1, fld_app (by omega)]; exact S.c1.symm), by rw [fld_app (by omega)]; exact S.f1.1, a1, by rw [pcs_app (by omega)]; exact S.u1⟩
theorem Stands.mbr (S : Stands D n g ps) (hn : 80 ≤ n ∧ n ≤ 1000000) : sigB (D ++ Z) = true ∧ flagsB (D ++ Z) ∧ (((D ++ Z).getD 450 0).toNat : Int) = 238 := by
 have hl := S.len
 exact prot_mbr (m := (n : Int) - 1) (by rw [List.length_append]; omega) (by rw [pcs_app (by omega)]; exact S.pr)
end st
end Go.Proofs.YthcaejaaalkglaaGreatDoor.X
/- Walks of functions, printed by a program of this claim. -/
namespace Go.Proofs.YthcaejaaalkglaaGreatDoor.X
set_option linter.unusedVariables false
set_option linter.unusedSimpArgs false
open Go Go.RowKit
namespace PF
theorem ca14 : callable Tryz.prog 14 = true := by kernel_rfl
end PF
open PF
end Go.Proofs.YthcaejaaalkglaaGreatDoor.X
