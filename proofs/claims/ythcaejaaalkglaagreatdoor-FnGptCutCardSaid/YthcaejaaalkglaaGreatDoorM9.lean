/- Laws and walks on the road to the statement: HdrPut, P42, P43, CallHeap, P44, CallHeap2, P45, WrPure, P46, StRow, P48, TextPure. -/
import Derived.Test.YthcaejaaalkglaaGreatDoorM8
/- A header, field by field; a call's own heap. -/
namespace Go.Proofs.YthcaejaaalkglaaGreatDoor.X
set_option linter.unusedVariables false
set_option linter.unusedSimpArgs false
open Go Go.RowKit
theorem hdr_put2 {a o e n c : Int} {gu : List UInt8} (h : gu.length = 16) :
  pAt (pAt (pAt (pAt (pAt (pAt (pAt (pAt (pAt (pAt (pAt (pAt (pAt (pAt (List.replicate 512 0) 0 efiL) 8 [0, 0, 1, 0]) 12 [92, 0, 0, 0]) 16 [0, 0, 0, 0]) 20 [0, 0, 0, 0]) 24 (leB 8 a)) 32 (leB 8 o)) 40 (leB 8 34)) 48 (leB 8 (n - 34))) 56 gu) 72 (leB 8 e)) 80 (leB 4 128)) 84 (leB 4 128)) 88 (leB 4 c) = hdrS 0 a o e n gu c ++ List.replicate 420 0 := by
 have e0 : pAt (List.replicate 512 0) 0 efiL = pz efiL := rfl
 have l0 : efiL.length = 8 := rfl
 rw [e0, pz_app (p := 8) (by simp [l0]) (by simp), pz_app (p := 12) (by simp [l0]) (by simp), pz_app (p := 16) (by simp [l0]) (by simp), pz_app (p := 20) (by simp [l0]) (by simp),
  pz_app (p := 24) (by simp [l0]) (by rw [leB_len]; omega), pz_app (p := 32) (by simp [l0, leB_len]) (by rw [leB_len]; omega), pz_app (p := 40) (by simp [l0, leB_len]) (by rw [leB_len]; omega), pz_app (p := 48) (by simp [l0, leB_len]) (by rw [leB_len]; omega),
  pz_app (p := 56) (by simp [l0, leB_len]) (by rw [h]; omega), pz_app (p := 72) (by simp [l0, leB_len, h]) (by rw [leB_len]; omega), pz_app (p := 80) (by simp [l0, leB_len, h]) (by rw [leB_len]; omega), pz_app (p := 84) (by simp [l0, leB_len, h]) (by rw [leB_len]; omega), pz_app (p := 88) (by simp [l0, leB_len, h]) (by rw [leB_len]; omega)]
 have hs : efiL ++ [0, 0, 1, 0] ++ [92, 0, 0, 0] ++ [0, 0, 0, 0] ++ [0, 0, 0, 0] ++ leB 8 a ++ leB 8 o ++ leB 8 34 ++ leB 8 (n - 34) ++ gu ++ leB 8 e ++ leB 4 128 ++ leB 4 128 ++ leB 4 c = hdrS 0 a o e n gu c := by
  have e1 : leB 4 65536 = [0, 0, 1, 0] := by decide
  have e2 : leB 4 92 = [92, 0, 0, 0] := by decide
  have e3 : leB 4 0 = [0, 0, 0, 0] := by decide
  unfold hdrS
  rw [e1, e2, e3]
 rw [hs, pz_eq (by rw [hdrS_len h]; omega), hdrS_len h]
theorem set_sameH {l : List UInt8} {i : Nat} {v : UInt8} (h : l[i]? = some v) : l.set i v = l := by
 refine List.ext_getElem? fun k => ?_
 by_cases hk : i = k
 ·subst hk
  have hi := (List.getElem?_eq_some_iff.1 h).1
  rw [List.getElem?_set_self hi, h]
 ·rw [List.getElem?_set_ne hk]
theorem hdr_zero {a o e n c : Int} {gu : List UInt8} {i : Nat} (h : gu.length = 16) (hi : 92 ≤ i ∧ i < 512) : (hdrB a o e n gu c).set i (b8 0) = hdrB a o e n gu c := by
 refine set_sameH ?_
 unfold hdrB
 rw [List.getElem?_append_right (by rw [hdrS_len h]; omega), hdrS_len h, List.getElem?_replicate, if_pos (by omega)]
 rfl
theorem SH.rebase {w0 w1 : World} {S : List Nat} {A : List Ent} {te : Ent} {T : TypeId} {l : PL} (H : SH w0 S w1 (A ++ (te :: ents T l))) (hm : te.m = false) : SH w1 (l.map Prod.fst) w1 (te :: ents T l) :=
 SH.init _ _ (fun x hx => H.get x (List.mem_append.2 (.inr hx))) (List.pairwise_append.1 H.ap).2.1 (fun x hx h => by
  rcases List.mem_cons.1 hx with rfl | hx
  ·rw [hm] at h; cases h
  ·exact ents_b hx)
def genP (oth : Int) : List UInt8 := pAt (pAt (((pAt (List.replicate 512 0) 510 [85, 170]).set 446 (b8 0)).set 450 (b8 238)) 454 (leB 4 1)) 458 (leB 4 oth)
theorem genP_len (oth : Int) : (genP oth).length = 512 := by
 have h0 : (List.replicate 512 (0 : UInt8)).length = 512 := List.length_replicate
 have h1 : (pAt (List.replicate 512 0) 510 [85, 170]).length = 512 := by rw [pAt_len (by rw [h0]; decide), h0]
 have h2 : (((pAt (List.replicate 512 0) 510 [85, 170]).set 446 (b8 0)).set 450 (b8 238)).length = 512 := by rw [List.length_set, List.length_set, h1]
 have h3 : (pAt (((pAt (List.replicate 512 0) 510 [85, 170]).set 446 (b8 0)).set 450 (b8 238)) 454 (leB 4 1)).length = 512 := by rw [pAt_len (by rw [leB_len, h2]; decide), h2]
 unfold genP
 rw [pAt_len (by rw [leB_len, h3]; decide), h3]
end Go.Proofs.YthcaejaaalkglaaGreatDoor.X
/- Walks of functions, printed by a program of this claim. -/
namespace Go.Proofs.YthcaejaaalkglaaGreatDoor.X
set_option linter.unusedVariables false
set_option linter.unusedSimpArgs false
open Go Go.RowKit
namespace PF
theorem ca74 : callable Tryz.prog 74 = true := by kernel_rfl
theorem fo106_12 : fieldOff Tryz.prog 106 12 = some 12 := by kernel_rfl
theorem fo106_13 : fieldOff Tryz.prog 106 13 = some 13 := by kernel_rfl
end PF
open PF
set_option maxRecDepth 100000 in
set_option maxHeartbeats 4000000 in
theorem c_initTable (w : World) (t : Nat) (D : Option Addr) (m cap : Nat) (g : List UInt8) (pr rb : Bool) (n : Nat) (hn : 80 ≤ n ∧ n ≤ 1000000) (hgn : g ≠ []) (hp : w.heap[t]? = some (.cells (tbZ D m cap g pr rb).toArray 106 (0, 0))) : Calls Tryz.prog 51 #[.pointer (some ⟨t, 0, none⟩), .int .i64 ((n : Int) * 512)] w (Ret fun v w' => v = .tuple #[] ∧ Fr [t] w w' ∧ w'.heap[t]? = some (.cells (tbC D m cap 512 512 g pr rb 128 128 0 0 1 ((n : Int) - 1) 34 ((n : Int) - 34) true).toArray 106 (0, 0))) := by
 refine enter (fun _ => .tuple #[]) Tryz.func51 rfl rfl rfl (res0 rfl) ?_
 have H := SH.rw1 hp
 refine sq ?_
 refine sq ?_
 refine rg ?_
 refine mv (v := .pointer _) rfl rfl ?_
 refine nc rfl rfl ?_
 refine fa rfl fo106_1 rfl ?_
 refine ld H rfl sc3 rfl rfl ?_
 refine eql rfl rfl rfl ?_
 refine nl ?_
 refine then_n ?_
 refine cF rfl (by first | decide | omega) ?_
 refine sk ?_
 refine then_n ?_
 refine sq ?_
 refine sq ?_
 refine rg ?_
 refine mv (v := .pointer _) rfl rfl ?_
 refine nc rfl rfl ?_
 refine fa rfl fo106_2 rfl ?_
 refine ld H rfl sc3 rfl rfl ?_
 refine eql rfl rfl rfl ?_
 refine nl ?_
 refine then_n ?_
 refine cF rfl (by first | decide | omega) ?_
 refine sk ?_
 refine then_n ?_
 refine sq ?_
 refine sq ?_
 refine rg ?_
 refine mv (v := .pointer _) rfl rfl ?_
 refine nc rfl rfl ?_
 refine fa rfl fo106_10 rfl ?_
 refine ld H rfl sc28 rfl rfl ?_
 refine eql rfl rfl rfl ?_
 refine nl ?_
 refine then_n ?_
 refine cT rfl rfl ?_
 refine rg ?_
 refine mv (v := .pointer _) rfl rfl ?_
 refine nc rfl rfl ?_
 refine fa rfl fo106_10 rfl ?_
 refine st (v := .int .u64 _) H rfl rfl sc28 rfl (by show 0 + 10 < 15; decide) (by omega) ?_
 clear H; intro w91 H _
 refine nl ?_
 refine then_n ?_
 refine sq ?_
 refine sq ?_
 refine rg ?_
 refine mv (v := .pointer _) rfl rfl ?_
 refine nc rfl rfl ?_
 refine fa rfl fo106_3 rfl ?_
 refine ld H rfl sc9 rfl rfl ?_
 refine eqlT rfl rfl rfl ?_
 refine nl ?_
 refine then_n ?_
 refine cF rfl hgn ?_
 refine sk ?_
 refine then_n ?_
 refine sq ?_
 refine sq ?_
 refine rg ?_
 refine mv (v := .pointer _) rfl rfl ?_
 refine nc rfl rfl ?_
 refine fa rfl fo106_6 rfl ?_
 refine ld H rfl sc3 rfl rfl ?_
 refine eql rfl rfl rfl ?_
 refine nl ?_
 refine then_n ?_
 refine cT rfl rfl ?_
 refine rg ?_
 refine mv (v := .pointer _) rfl rfl ?_
 refine nc rfl rfl ?_
 refine fa rfl fo106_6 rfl ?_
 refine st (v := .int .i64 _) H rfl rfl sc3 rfl (by show 0 + 6 < 15; decide) (by omega) ?_
 clear H; intro w92 H _
 refine nl ?_
 refine then_n ?_
 refine sq ?_
 refine sq ?_
 refine rg ?_
 refine mv (v := .pointer _) rfl rfl ?_
 refine nc rfl rfl ?_
 refine fa rfl fo106_7 rfl ?_
 refine ld H rfl sc58 rfl rfl ?_
 refine eql rfl rfl rfl ?_
 refine nl ?_
 refine then_n ?_
 refine cT rfl rfl ?_
 refine rg ?_
 refine mv (v := .pointer _) rfl rfl ?_
 refine nc rfl rfl ?_
 refine fa rfl fo106_7 rfl ?_
 refine st (v := .int .u32 _) H rfl rfl sc58 rfl (by show 0 + 7 < 15; decide) (by omega) ?_
 clear H; intro w93 H _
 refine nl ?_
 refine then_n ?_
 refine sq ?_
 refine rg ?_
 refine mv (v := .int .i64 _) rfl rfl ?_
 refine cvi rfl rfl Tryz.underlying28 (by first | exact w_u64 (by omega) | exact w_u64 (rng_u64 _) | exact m_u64 _) rfl ?_
 refine mv (v := .pointer _) rfl rfl ?_
 refine nc rfl rfl ?_
 refine fa rfl fo106_1 rfl ?_
 refine ld H rfl sc3 rfl rfl ?_
 refine cvi rfl rfl Tryz.underlying28 (by first | exact w_u64 (by omega) | exact w_u64 (rng_u64 _) | exact m_u64 _) rfl ?_
 refine quo (c := (n : Int)) rfl rfl (by omega) (by omega) (by rw [w_u64 (by omega)]; omega) rfl ?_
 refine asg (v := .int .u64 _) rfl rfl ?_
 refine nl ?_
 refine then_n ?_
 refine sq ?_
 refine dr (by kernel_rfl) ?_
 have H := H.drew
 refine hold (fun _ => True) [] ?_
 refine tk (i := 0) rfl (by kernel_rfl) rfl trivial (fun _ _ => r_mv (v := .pointer _) rfl) ?_
 refine tk (i := 1) rfl (by kernel_rfl) rfl trivial (fun _ _ => r_nc rfl) ?_
 refine tk (i := 2) rfl (by kernel_rfl) rfl trivial (fun _ _ => r_fa rfl fo106_6) ?_
 refine tk (i := 5) rfl (by kernel_rfl) rfl trivial (fun _ _ => r_mv (v := .pointer _) rfl) ?_
 refine tk (i := 6) rfl (by kernel_rfl) rfl trivial (fun _ _ => r_nc rfl) ?_
 refine tk (i := 7) rfl (by kernel_rfl) rfl trivial (fun _ _ => r_fa rfl fo106_7) ?_
 refine tk (i := 11) rfl (by kernel_rfl) rfl trivial (fun _ _ => r_mv (v := .pointer _) rfl) ?_
 refine tk (i := 12) rfl (by kernel_rfl) rfl trivial (fun _ _ => r_nc rfl) ?_
 refine tk (i := 13) rfl (by kernel_rfl) rfl trivial (fun _ _ => r_fa rfl fo106_1) ?_
 refine unfree ?_
 refine holdH H [] ?_
 refine tk (i := 3) rfl (by kernel_rfl) rfl H (fun w' H => r_ld H rfl sc3 rfl) ?_
 refine tk (i := 4) rfl (by kernel_rfl) rfl H (fun w' H => r_cvi rfl rfl Tryz.underlying28 (by first | exact w_u64 (by omega) | exact w_u64 (rng_u64 _) | exact m_u64 _)) ?_
 refine tk (i := 8) rfl (by kernel_rfl) rfl H (fun w' H => r_ld H rfl sc58 rfl) ?_
 refine tk (i := 9) rfl (by kernel_rfl) rfl H (fun w' H => r_cvi rfl rfl Tryz.underlying28 (by first | exact w_u64 (by omega) | exact w_u64 (rng_u64 _) | exact m_u64 _)) ?_
 refine tk (i := 10) rfl (by kernel_rfl) rfl H (fun w' H => r_mul rfl rfl (by first | exact w_u64 (by omega) | exact w_u64 (rng_u64 _) | exact m_u64 _)) ?_
 refine tk (i := 14) rfl (by kernel_rfl) rfl H (fun w' H => r_ld H rfl sc3 rfl) ?_
 refine tk (i := 15) rfl (by kernel_rfl) rfl H (fun w' H => r_cvi rfl rfl Tryz.underlying28 (by first | exact w_u64 (by omega) | exact w_u64 (rng_u64 _) | exact m_u64 _)) ?_
 refine tk (i := 16) rfl (by kernel_rfl) rfl H (fun w' H => r_quo (c := 32) rfl rfl (by decide) (by decide) rfl) ?_
 refine tk (i := 17) rfl (by kernel_rfl) rfl H (fun w' H => r_asg (v := .int .u64 _) rfl) ?_
 refine da (by kernel_rfl) ?_
 refine then_n ?_
 refine sq ?_
 refine sq ?_
 refine rg ?_
 refine mv (v := .pointer _) rfl rfl ?_
 refine nc rfl rfl ?_
 refine fa rfl fo106_12 rfl ?_
 refine ld H rfl sc28 rfl rfl ?_
 refine eql rfl rfl rfl ?_
 refine nl ?_
 refine then_n ?_
 refine cT rfl rfl ?_
 refine rg ?_
 refine mv (v := .pointer _) rfl rfl ?_
 refine mv (v := .int .u64 _) rfl rfl ?_
 refine add rfl rfl (by first | exact w_u64 (by omega) | exact w_u64 (rng_u64 _) | exact m_u64 _) rfl ?_
 refine nc rfl rfl ?_
 refine fa rfl fo106_12 rfl ?_
 refine st (v := .int .u64 _) H rfl rfl sc28 rfl (by show 0 + 12 < 15; decide) (by omega) ?_
 clear H; intro w94 H _
 refine nl ?_
 refine then_n ?_
 refine sq ?_
 refine sq ?_
 refine rg ?_
 refine mv (v := .pointer _) rfl rfl ?_
 refine nc rfl rfl ?_
 refine fa rfl fo106_11 rfl ?_
 refine ld H rfl sc28 rfl rfl ?_
 refine eql rfl rfl rfl ?_
 refine nl ?_
 refine then_n ?_
 refine cT rfl rfl ?_
 refine rg ?_
 refine mv (v := .pointer _) rfl rfl ?_
 refine mv (v := .int .u64 _) rfl rfl ?_
 refine sub rfl rfl (by first | exact w_u64 (by omega) | exact w_u64 (rng_u64 _) | exact m_u64 _) rfl ?_
 refine nc rfl rfl ?_
 refine fa rfl fo106_11 rfl ?_
 refine st (v := .int .u64 _) H rfl rfl sc28 rfl (by show 0 + 11 < 15; decide) (by omega) ?_
 clear H; intro w95 H _
 refine nl ?_
 refine then_n ?_
 refine sq ?_
 refine sq ?_
 refine rg ?_
 refine mv (v := .pointer _) rfl rfl ?_
 refine nc rfl rfl ?_
 refine fa rfl fo106_13 rfl ?_
 refine ld H rfl sc28 rfl rfl ?_
 refine eql rfl rfl rfl ?_
 refine nl ?_
 refine then_n ?_
 refine cT rfl rfl ?_
 refine rg ?_
 refine mv (v := .pointer _) rfl rfl ?_
 refine mv (v := .pointer _) rfl rfl ?_
 refine nc rfl rfl ?_
 refine fa rfl fo106_11 rfl ?_
 refine ld H rfl sc28 rfl rfl ?_
 refine mv (v := .int .u64 _) rfl rfl ?_
 refine sub rfl rfl (by first | exact w_u64 (by omega) | exact w_u64 (rng_u64 _) | exact m_u64 _) rfl ?_
 refine sub (c := (n : Int) - 34) rfl rfl (by rw [w_u64 (by omega)]; omega) rfl ?_
 refine nc rfl rfl ?_
 refine fa rfl fo106_13 rfl ?_
 refine st (v := .int .u64 _) H rfl rfl sc28 rfl (by show 0 + 13 < 15; decide) (by omega) ?_
 clear H; intro w96 H _
 refine nl ?_
 refine then_n ?_
 refine rg ?_
 refine mv (v := .pointer _) rfl rfl ?_
 refine nc rfl rfl ?_
 refine fa rfl fo106_14 rfl ?_
 refine st (v := .bool _) H rfl rfl sc4 rfl (by show 0 + 14 < 15; decide) (by omega) ?_
 clear H; intro w97 H _
 refine nl ?_
 refine fin_n ?_
 exact ⟨rfl, H.fr, H.look (b := t)⟩
set_option maxRecDepth 100000 in
set_option maxHeartbeats 2000000 in
theorem c_pas (w : World) (t : Nat) (D : Option Addr) (m cap : Nat) (g : List UInt8) (pr rb : Bool) (frm crc : Int) (n : Nat) (hn : 80 ≤ n ∧ n ≤ 1000000) (pb : Bool) (hp : w.heap[t]? = some (.cells (tbC D m cap 512 512 g pr rb 128 128 frm crc 1 ((n : Int) - 1) 34 ((n : Int) - 34) true).toArray 106 (0, 0))) : Calls Tryz.prog 54 #[.pointer (some ⟨t, 0, none⟩), .bool pb] w (Ret fun v w' => v = .int .u64 (if pb then 2 else (n : Int) - 33) ∧ Fr [] w w') := by
 refine enter (fun ρ => ρ 4) Tryz.func54 rfl rfl rfl (res1 rfl) ?_
 have H := SH.ro1 hp
 refine sq ?_
 refine rg ?_
 refine asg (v := .int .u64 _) rfl rfl ?_
 refine nl ?_
 refine then_n ?_
 refine sq ?_
 refine sq ?_
 refine rg ?_
 refine mv (v := .bool _) rfl rfl ?_
 refine nl ?_
 refine then_n ?_
 refine cn rfl (fun hc1 => ?_) (fun hc1 => ?_)
 ·refine sq ?_
  refine rg ?_
  refine mv (v := .pointer _) rfl rfl ?_
  refine nc rfl rfl ?_
  refine fa rfl fo106_10 rfl ?_
  refine ld H rfl sc28 rfl rfl ?_
  refine add (c := 2) rfl rfl rfl rfl ?_
  refine asg (v := .int .u64 _) rfl rfl ?_
  refine nl ?_
  refine then_n ?_
  refine rt ?_
  refine then_r ?_
  refine fin_r ?_
  exact ⟨by rw [hc1]; rfl, H.fr⟩
 ·refine sk ?_
  refine then_n ?_
  refine sq ?_
  refine dr (by kernel_rfl) ?_
  have H := H.drew
  refine hold (fun _ => True) [] ?_
  refine tk (i := 0) rfl (by kernel_rfl) rfl trivial (fun _ _ => r_mv (v := .pointer _) rfl) ?_
  refine tk (i := 1) rfl (by kernel_rfl) rfl trivial (fun _ _ => r_nc rfl) ?_
  refine tk (i := 2) rfl (by kernel_rfl) rfl trivial (fun _ _ => r_fa rfl fo106_11) ?_
  refine tk (i := 4) rfl (by kernel_rfl) rfl trivial (fun _ _ => r_mv (v := .pointer _) rfl) ?_
  refine tk (i := 5) rfl (by kernel_rfl) rfl trivial (fun _ _ => r_nc rfl) ?_
  refine tk (i := 6) rfl (by kernel_rfl) rfl trivial (fun _ _ => r_fa rfl fo106_6) ?_
  refine tk (i := 9) rfl (by kernel_rfl) rfl trivial (fun _ _ => r_mv (v := .pointer _) rfl) ?_
  refine tk (i := 10) rfl (by kernel_rfl) rfl trivial (fun _ _ => r_nc rfl) ?_
  refine tk (i := 11) rfl (by kernel_rfl) rfl trivial (fun _ _ => r_fa rfl fo106_7) ?_
  refine tk (i := 15) rfl (by kernel_rfl) rfl trivial (fun _ _ => r_mv (v := .pointer _) rfl) ?_
  refine tk (i := 16) rfl (by kernel_rfl) rfl trivial (fun _ _ => r_nc rfl) ?_
  refine tk (i := 17) rfl (by kernel_rfl) rfl trivial (fun _ _ => r_fa rfl fo106_1) ?_
  refine unfree ?_
  refine holdH H [] ?_
  refine tk (i := 3) rfl (by kernel_rfl) rfl H (fun w' H => r_ld H rfl sc28 rfl) ?_
  refine tk (i := 7) rfl (by kernel_rfl) rfl H (fun w' H => r_ld H rfl sc3 rfl) ?_
  refine tk (i := 8) rfl (by kernel_rfl) rfl H (fun w' H => r_cvi rfl rfl Tryz.underlying28 (by first | exact w_u64 (by omega) | exact w_u64 (rng_u64 _) | exact m_u64 _)) ?_
  refine tk (i := 12) rfl (by kernel_rfl) rfl H (fun w' H => r_ld H rfl sc58 rfl) ?_
  refine tk (i := 13) rfl (by kernel_rfl) rfl H (fun w' H => r_cvi rfl rfl Tryz.underlying28 (by first | exact w_u64 (by omega) | exact w_u64 (rng_u64 _) | exact m_u64 _)) ?_
  refine tk (i := 14) rfl (by kernel_rfl) rfl H (fun w' H => r_mul rfl rfl (by first | exact w_u64 (by omega) | exact w_u64 (rng_u64 _) | exact m_u64 _)) ?_
  refine tk (i := 18) rfl (by kernel_rfl) rfl H (fun w' H => r_ld H rfl sc3 rfl) ?_
  refine tk (i := 19) rfl (by kernel_rfl) rfl H (fun w' H => r_cvi rfl rfl Tryz.underlying28 (by first | exact w_u64 (by omega) | exact w_u64 (rng_u64 _) | exact m_u64 _)) ?_
  refine tk (i := 20) rfl (by kernel_rfl) rfl H (fun w' H => r_quo (c := 32) rfl rfl (by decide) (by decide) rfl) ?_
  refine tk (i := 21) rfl (by kernel_rfl) rfl H (fun w' H => r_sub (c := (n : Int) - 33) rfl rfl (by rw [w_u64 (by omega)]; omega)) ?_
  refine tk (i := 22) rfl (by kernel_rfl) rfl H (fun w' H => r_asg (v := .int .u64 _) rfl) ?_
  refine da (by kernel_rfl) ?_
  refine then_n ?_
  refine rt ?_
  refine fin_r ?_
  exact ⟨by rw [hc1]; rfl, H.fr⟩
set_option maxRecDepth 100000 in
set_option maxHeartbeats 4000000 in
theorem c_genProt (w : World) (t : Nat) (D : Option Addr) (m cap : Nat) (g : List UInt8) (pr rb : Bool) (frm crc : Int) (n : Nat) (hn : 80 ≤ n ∧ n ≤ 1000000) (hp : w.heap[t]? = some (.cells (tbC D m cap 512 512 g pr rb 128 128 frm crc 1 ((n : Int) - 1) 34 ((n : Int) - 34) true).toArray 106 (0, 0))) : Calls Tryz.prog 57 #[.pointer (some ⟨t, 0, none⟩)] w (Ret fun v w' => ∃ b, v = .slice (some ⟨b, 0, none⟩) 512 512 ∧ w.heap.size ≤ b ∧ w'.heap[b]? = some (.cells (Bs (genP ((n : Int) - 1))).toArray 5 (0, 0)) ∧ Fr [] w w') := by
 refine enter (fun ρ => ρ 2) Tryz.func57 rfl rfl rfl (res1 rfl) ?_
 have H := SH.ro1 hp
 have h0 : (List.replicate 512 (0 : UInt8)).length = 512 := List.length_replicate
 refine sq ?_
 refine rg ?_
 refine asg (v := .slice _ _ _) rfl rfl ?_
 refine nl ?_
 refine then_n ?_
 refine sq ?_
 refine rg ?_
 refine mkB H rfl rfl Tryz.underlying30 mi5 (by omega) (by omega) (by omega) (by omega) rfl ?_
 clear H; intro b1 w1 hb1 H _
 replace H := sh_cells0 (cs' := Bs (List.replicate 512 0)) H rfl
 refine asg (v := .slice _ _ _) rfl rfl ?_
 refine nl ?_
 refine then_n ?_
 refine sq ?_
 refine dr (by kernel_rfl) ?_
 have H := H.drew
 refine hold (fun _ => True) [] ?_
 refine tk (i := 0) rfl (by kernel_rfl) rfl trivial (fun _ _ => r_mv (v := .slice _ _ _) rfl) ?_
 refine tk (i := 1) rfl (by kernel_rfl) rfl trivial (fun _ _ => r_sllN (510) (2) (2) rfl rfl Tryz.underlying30 sz5_1 (by omega) (by omega)) ?_
 refine unfree ?_
 refine fo (i := 2) (by kernel_rfl) rfl rfl ?_
 refine cl ca78 (c_getMs _) rfl ?_
 rintro _ w2 ⟨b2, rfl, hb2, ho2, F⟩
 replace H := H.new F hb2 ho2; clear F ho2
 refine nl ?_
 refine then_n ?_
 refine fo (i := 3) (by kernel_rfl) rfl rfl ?_
 refine cpP (bs := [85, 170]) H rfl rfl Tryz.underlying30 sz5_1 (RB.allL [85, 170] H rfl) (by decide) (by omega) (by omega) rfl ?_
 clear H; intro w3 H _ hl1
 refine nl ?_
 refine then_n ?_
 refine dn (by kernel_rfl) ?_
 refine then_n ?_
 refine sq ?_
 refine rg ?_
 refine mv (v := .slice _ _ _) rfl rfl ?_
 refine sllhN (446) (16) (66) rfl rfl rfl Tryz.underlying30 sz5_1 (by omega) (by omega) rfl ?_
 refine asg (v := .slice _ _ _) rfl rfl ?_
 refine nl ?_
 refine then_n ?_
 refine sq ?_
 refine rg ?_
 refine mv (v := .slice _ _ _) rfl rfl ?_
 refine iaN (446) rfl rfl Tryz.underlying30 sz5_1 (by omega) (by omega) rfl ?_
 refine stb H rfl rfl sc5 (by decide) (by omega) (by omega) ?_
 clear H; intro w91 H _
 refine nl ?_
 refine then_n ?_
 refine sq ?_
 refine rg ?_
 refine mv (v := .slice _ _ _) rfl rfl ?_
 refine iaN (450) rfl rfl Tryz.underlying30 sz5_1 (by omega) (by omega) rfl ?_
 refine stb H rfl rfl sc5 (by decide) (by simp only [List.length_set]; omega) (by omega) ?_
 clear H; intro w92 H _
 refine nl ?_
 refine then_n ?_
 refine sq ?_
 refine dr (by kernel_rfl) ?_
 have H := H.drew
 refine hold (fun _ => True) [] ?_
 refine tk (i := 1) rfl (by kernel_rfl) rfl trivial (fun _ _ => r_mv (v := .slice _ _ _) rfl) ?_
 refine tk (i := 2) rfl (by kernel_rfl) rfl trivial (fun _ _ => r_sllhN (454) (4) (58) rfl rfl rfl Tryz.underlying30 sz5_1 (by omega) (by omega)) ?_
 refine unfree ?_
 refine holdH H [3] ?_
 refine tk (i := 0) rfl (by kernel_rfl) rfl H (fun w' H => r_lw (vs := []) rfl ag143_0 rfl (by simp)) ?_
 refine fb (i := 3) (by kernel_rfl) rfl rfl rfl ?_
 refine cl ca74 (c_PutUint32 _ b1 _ _ _ _ _ _ (H.look (b := b1)) (by omega) (by simp only [List.length_set] at *; omega) (by omega)) rfl ?_
 rintro _ w4 ⟨rfl, hpl9, F, hnew⟩
 replace H := H.put (b := b1) F hnew; clear F hnew
 refine nl ?_
 refine then_n ?_
 refine dn (by kernel_rfl) ?_
 refine then_n ?_
 refine sq ?_
 refine dr (by kernel_rfl) ?_
 have H := H.drew
 refine hold (fun _ => True) [] ?_
 refine tk (i := 1) rfl (by kernel_rfl) rfl trivial (fun _ _ => r_mv (v := .slice _ _ _) rfl) ?_
 refine tk (i := 2) rfl (by kernel_rfl) rfl trivial (fun _ _ => r_sllhN (458) (4) (54) rfl rfl rfl Tryz.underlying30 sz5_1 (by omega) (by omega)) ?_
 refine tk (i := 3) rfl (by kernel_rfl) rfl trivial (fun _ _ => r_mv (v := .pointer _) rfl) ?_
 refine tk (i := 4) rfl (by kernel_rfl) rfl trivial (fun _ _ => r_nc rfl) ?_
 refine tk (i := 5) rfl (by kernel_rfl) rfl trivial (fun _ _ => r_fa rfl fo106_11) ?_
 refine unfree ?_
 refine holdH H [8] ?_
 refine tk (i := 0) rfl (by kernel_rfl) rfl H (fun w' H => r_lw (vs := []) rfl ag143_0 rfl (by simp)) ?_
 refine fk (i := 6) (by kernel_rfl) rfl rfl rfl ?_
 refine ld H rfl sc28 rfl rfl ?_
 refine nl ?_
 refine then_n ?_
 refine ⟨H, ?_⟩
 refine tk (i := 7) rfl (by kernel_rfl) rfl H (fun w' H => r_cvi rfl rfl Tryz.underlying58 (by first | exact w_u32 (by omega) | exact w_u32 (rng_u32 _) | exact m_u32 _)) ?_
 refine fb (i := 8) (by kernel_rfl) rfl rfl rfl ?_
 refine cl ca74 (c_PutUint32 _ b1 _ _ _ _ _ _ (H.look (b := b1)) (by omega) (by simp only [List.length_set] at *; omega) (by omega)) rfl ?_
 rintro _ w5 ⟨rfl, hpl9, F, hnew⟩
 replace H := H.put (b := b1) F hnew; clear F hnew
 refine nl ?_
 refine then_n ?_
 refine dn (by kernel_rfl) ?_
 refine then_n ?_
 refine sq ?_
 refine rg ?_
 refine mv (v := .slice _ _ _) rfl rfl ?_
 refine asg (v := .slice _ _ _) rfl rfl ?_
 refine nl ?_
 refine then_n ?_
 refine rt ?_
 refine fin_r ?_
 exact ⟨b1, rfl, H.ge, H.look (b := b1), H.fr⟩
end Go.Proofs.YthcaejaaalkglaaGreatDoor.X
/- Walks of functions, printed by a program of this claim. -/
namespace Go.Proofs.YthcaejaaalkglaaGreatDoor.X
set_option linter.unusedVariables false
set_option linter.unusedSimpArgs false
open Go Go.RowKit
namespace PF
theorem ca53 : callable Tryz.prog 53 = true := by kernel_rfl
theorem ca54 : callable Tryz.prog 54 = true := by kernel_rfl
end PF
open PF
set_option maxRecDepth 100000 in
set_option maxHeartbeats 8000000 in
theorem c_toGptT (w : World) (t : Nat) (D : Option Addr) (m cap : Nat) (g : List UInt8) (pr rb : Bool) (frm crc : Int) (n : Nat) (hn : 80 ≤ n ∧ n ≤ 1000000) (l : PL) (ps : List GP) (y1 y2 : Value) (hsnd : l.map Prod.snd = ps.map (pcY y1 y2)) (hlen : l.length = m) (hrow : ∀ j x, l[j]? = some x → ∃ ad, D = some ad ∧ w.cell? (ad.add j) = some (.pointer (some ⟨x.1, 0, none⟩))) (hDn : ∀ ad, D = some ad → ad.block ∉ l.map Prod.fst) (hg : goodL n ps) (hok : ∀ p ∈ ps, p.ok) (hft : ∀ p ∈ ps, p.fit) (hm : m ≤ 200) (hgu : gOk g = true) (H0 : SH w (l.map Prod.fst) w (⟨t, .cells (tbC D m cap 512 512 g pr rb 128 128 frm crc 1 ((n : Int) - 1) 34 ((n : Int) - 34) true).toArray 106 (0, 0), false⟩ :: ents 126 l)) : Calls Tryz.prog 52 #[.pointer (some ⟨t, 0, none⟩), .bool true] w (Ret fun v w' => ∃ q l', v = .tuple #[.slice (some ⟨q, 0, none⟩) 512 512, .nilIface] ∧ l'.map Prod.fst = l.map Prod.fst ∧ l'.map Prod.snd = (ps.map upG).map (pcY y1 y2) ∧ SH w (l.map Prod.fst) w' (⟨q, .cells (Bs (hdrB 1 ((n : Int) - 1) 2 (n : Int) (gB g) (crc32 (arrB ps)))).toArray 5 (0, 0), true⟩ :: ents 126 l')) := by
 refine enter (fun ρ => .tuple #[ρ 4, ρ 5]) Tryz.func52 rfl rfl rfl (res2 rfl) ?_
 have H := H0
 have h0 : (List.replicate 512 (0 : UInt8)).length = 512 := List.length_replicate
 have hgl := gB_len g
 have hfs : ∀ p ∈ ps, p.fits := fun p hp => (hg.1 p hp).fits
 have hal := arrB_len hfs
 have hcr := hdrS_rng (arrB ps)
 refine sq ?_
 refine rg ?_
 refine asg (v := .slice _ _ _) rfl rfl ?_
 refine asg (v := .nilIface) rfl rfl ?_
 refine nl ?_
 refine then_n ?_
 refine sq ?_
 refine rg ?_
 refine mv (v := .pointer _) rfl rfl ?_
 refine nc rfl rfl ?_
 refine fa rfl fo106_1 rfl ?_
 refine ld H rfl sc3 rfl rfl ?_
 refine mkB H rfl rfl Tryz.underlying30 mi5 (by omega) (by omega) (by omega) (by omega) rfl ?_
 clear H; intro b1 w1 hb1 H _
 replace H := sh_cells0 (cs' := Bs (List.replicate 512 0)) H rfl
 refine asg (v := .slice _ _ _) rfl rfl ?_
 refine nl ?_
 refine then_n ?_
 refine sq ?_
 refine dr (by kernel_rfl) ?_
 have H := H.drew
 refine hold (fun _ => True) [] ?_
 refine tk (i := 0) rfl (by kernel_rfl) rfl trivial (fun _ _ => r_mv (v := .slice _ _ _) rfl) ?_
 refine tk (i := 1) rfl (by kernel_rfl) rfl trivial (fun _ _ => r_sllhN (0) (8) (512) rfl rfl rfl Tryz.underlying30 sz5_1 (by omega) (by omega)) ?_
 refine unfree ?_
 refine fo (i := 2) (by kernel_rfl) rfl rfl ?_
 refine cl ca67 (c_getSig _) rfl ?_
 rintro _ w2 ⟨b2, rfl, hb2, ho2, F⟩
 replace H := H.new F hb2 ho2; clear F ho2
 refine nl ?_
 refine then_n ?_
 refine fo (i := 3) (by kernel_rfl) rfl rfl ?_
 refine cpP (bs := efiL) H rfl rfl Tryz.underlying30 sz5_1 (RB.allL efiL H rfl) (by decide) (by omega) (by omega) rfl ?_
 clear H; intro w3 H _ hl1
 refine nl ?_
 refine then_n ?_
 refine dn (by kernel_rfl) ?_
 refine then_n ?_
 refine sq ?_
 refine dr (by kernel_rfl) ?_
 have H := H.drew
 refine hold (fun _ => True) [] ?_
 refine tk (i := 0) rfl (by kernel_rfl) rfl trivial (fun _ _ => r_mv (v := .slice _ _ _) rfl) ?_
 refine tk (i := 1) rfl (by kernel_rfl) rfl trivial (fun _ _ => r_sllhN (8) (4) (504) rfl rfl rfl Tryz.underlying30 sz5_1 (by omega) (by omega)) ?_
 refine unfree ?_
 refine fo (i := 2) (by kernel_rfl) rfl rfl ?_
 refine cl ca68 (c_getRev _) rfl ?_
 rintro _ w4 ⟨b3, rfl, hb3, ho3, F⟩
 replace H := H.new F hb3 ho3; clear F ho3
 refine nl ?_
 refine then_n ?_
 refine fo (i := 3) (by kernel_rfl) rfl rfl ?_
 refine cpP (bs := [0, 0, 1, 0]) H rfl rfl Tryz.underlying30 sz5_1 (RB.allL [0, 0, 1, 0] H rfl) (by decide) (by omega) (by omega) rfl ?_
 clear H; intro w5 H _ hl2
 refine nl ?_
 refine then_n ?_
 refine dn (by kernel_rfl) ?_
 refine then_n ?_
 refine sq ?_
 refine dr (by kernel_rfl) ?_
 have H := H.drew
 refine hold (fun _ => True) [] ?_
 refine tk (i := 0) rfl (by kernel_rfl) rfl trivial (fun _ _ => r_mv (v := .slice _ _ _) rfl) ?_
 refine tk (i := 1) rfl (by kernel_rfl) rfl trivial (fun _ _ => r_sllhN (12) (4) (500) rfl rfl rfl Tryz.underlying30 sz5_1 (by omega) (by omega)) ?_
 refine unfree ?_
 refine fo (i := 2) (by kernel_rfl) rfl rfl ?_
 refine cl ca69 (c_getHs _) rfl ?_
 rintro _ w6 ⟨b4, rfl, hb4, ho4, F⟩
 replace H := H.new F hb4 ho4; clear F ho4
 refine nl ?_
 refine then_n ?_
 refine fo (i := 3) (by kernel_rfl) rfl rfl ?_
 refine cpP (bs := [92, 0, 0, 0]) H rfl rfl Tryz.underlying30 sz5_1 (RB.allL [92, 0, 0, 0] H rfl) (by decide) (by omega) (by omega) rfl ?_
 clear H; intro w7 H _ hl3
 refine nl ?_
 refine then_n ?_
 refine dn (by kernel_rfl) ?_
 refine then_n ?_
 refine sq ?_
 refine rg ?_
 refine mv (v := .slice _ _ _) rfl rfl ?_
 refine sllhN (16) (4) (496) rfl rfl rfl Tryz.underlying30 sz5_1 (by omega) (by omega) rfl ?_
 refine bsl (sz := 1) (out := ?o1) H Tryz.underlying30 ze5 sz5_1 (by decide) ?f1 rfl ?_
 case f1 =>
  refine FS.one (v := .int .u8 _) rfl rfl rfl (by first | decide | simp) ?_
  refine FS.one (v := .int .u8 _) rfl rfl rfl (by first | decide | simp) ?_
  refine FS.one (v := .int .u8 _) rfl rfl rfl (by first | decide | simp) ?_
  refine FS.one (v := .int .u8 _) rfl rfl rfl (by first | decide | simp) ?_
  exact FS.nil
 clear H; intro b5 w8 hb5 H F
 refine cpP (bs := [0, 0, 0, 0]) H rfl rfl Tryz.underlying30 sz5_1 (RB.allL [0, 0, 0, 0] H rfl) (by decide) (by omega) (by omega) rfl ?_
 clear H; intro w9 H _ hl4
 refine nl ?_
 refine then_n ?_
 refine sq ?_
 refine dr (by kernel_rfl) ?_
 have H := H.drew
 refine hold (fun _ => True) [] ?_
 refine tk (i := 0) rfl (by kernel_rfl) rfl trivial (fun _ _ => r_mv (v := .slice _ _ _) rfl) ?_
 refine tk (i := 1) rfl (by kernel_rfl) rfl trivial (fun _ _ => r_sllhN (20) (4) (492) rfl rfl rfl Tryz.underlying30 sz5_1 (by omega) (by omega)) ?_
 refine unfree ?_
 refine fo (i := 2) (by kernel_rfl) rfl rfl ?_
 refine cl ca70 (c_getZ _) rfl ?_
 rintro _ w10 ⟨b6, rfl, hb6, ho6, F⟩
 replace H := H.new F hb6 ho6; clear F ho6
 refine nl ?_
 refine then_n ?_
 refine fo (i := 3) (by kernel_rfl) rfl rfl ?_
 refine cpP (bs := [0, 0, 0, 0]) H rfl rfl Tryz.underlying30 sz5_1 (RB.allL [0, 0, 0, 0] H rfl) (by decide) (by omega) (by omega) rfl ?_
 clear H; intro w11 H _ hl5
 refine nl ?_
 refine then_n ?_
 refine dn (by kernel_rfl) ?_
 refine then_n ?_
 refine sq ?_
 refine sq ?_
 refine rg ?_
 refine mv (v := .bool _) rfl rfl ?_
 refine nl ?_
 refine then_n ?_
 refine cbT rfl rfl ?_
 refine sq ?_
 refine dr (by kernel_rfl) ?_
 have H := H.drew
 refine hold (fun _ => True) [] ?_
 refine tk (i := 1) rfl (by kernel_rfl) rfl trivial (fun _ _ => r_mv (v := .slice _ _ _) rfl) ?_
 refine tk (i := 2) rfl (by kernel_rfl) rfl trivial (fun _ _ => r_sllhN (24) (8) (488) rfl rfl rfl Tryz.underlying30 sz5_1 (by omega) (by omega)) ?_
 refine tk (i := 3) rfl (by kernel_rfl) rfl trivial (fun _ _ => r_mv (v := .pointer _) rfl) ?_
 refine tk (i := 4) rfl (by kernel_rfl) rfl trivial (fun _ _ => r_nc rfl) ?_
 refine tk (i := 5) rfl (by kernel_rfl) rfl trivial (fun _ _ => r_fa rfl fo106_10) ?_
 refine unfree ?_
 refine holdH H [7] ?_
 refine tk (i := 0) rfl (by kernel_rfl) rfl H (fun w' H => r_lw (vs := []) rfl ag143_0 rfl (by simp)) ?_
 refine tk (i := 6) rfl (by kernel_rfl) rfl H (fun w' H => r_ld H rfl sc28 rfl) ?_
 refine fb (i := 7) (by kernel_rfl) rfl rfl rfl ?_
 refine cl ca71 (c_PutUint64 _ b1 _ _ _ _ _ _ (H.look (b := b1)) (by omega) (by omega) (by omega)) rfl ?_
 rintro _ w12 ⟨rfl, hpl9, F, hnew⟩
 replace H := H.put (b := b1) F hnew; clear F hnew
 refine nl ?_
 refine then_n ?_
 refine dn (by kernel_rfl) ?_
 refine then_n ?_
 refine dr (by kernel_rfl) ?_
 have H := H.drew
 refine hold (fun _ => True) [] ?_
 refine tk (i := 1) rfl (by kernel_rfl) rfl trivial (fun _ _ => r_mv (v := .slice _ _ _) rfl) ?_
 refine tk (i := 2) rfl (by kernel_rfl) rfl trivial (fun _ _ => r_sllhN (32) (8) (480) rfl rfl rfl Tryz.underlying30 sz5_1 (by omega) (by omega)) ?_
 refine tk (i := 3) rfl (by kernel_rfl) rfl trivial (fun _ _ => r_mv (v := .pointer _) rfl) ?_
 refine tk (i := 4) rfl (by kernel_rfl) rfl trivial (fun _ _ => r_nc rfl) ?_
 refine tk (i := 5) rfl (by kernel_rfl) rfl trivial (fun _ _ => r_fa rfl fo106_11) ?_
 refine unfree ?_
 refine holdH H [7] ?_
 refine tk (i := 0) rfl (by kernel_rfl) rfl H (fun w' H => r_lw (vs := []) rfl ag143_0 rfl (by simp)) ?_
 refine tk (i := 6) rfl (by kernel_rfl) rfl H (fun w' H => r_ld H rfl sc28 rfl) ?_
 refine fb (i := 7) (by kernel_rfl) rfl rfl rfl ?_
 refine cl ca71 (c_PutUint64 _ b1 _ _ _ _ _ _ (H.look (b := b1)) (by omega) (by omega) (by omega)) rfl ?_
 rintro _ w13 ⟨rfl, hpl9, F, hnew⟩
 replace H := H.put (b := b1) F hnew; clear F hnew
 refine nl ?_
 refine then_n ?_
 refine dn (by kernel_rfl) ?_
 refine then_n ?_
 refine sq ?_
 refine dr (by kernel_rfl) ?_
 have H := H.drew
 refine hold (fun _ => True) [] ?_
 refine tk (i := 1) rfl (by kernel_rfl) rfl trivial (fun _ _ => r_mv (v := .slice _ _ _) rfl) ?_
 refine tk (i := 2) rfl (by kernel_rfl) rfl trivial (fun _ _ => r_sllhN (40) (8) (472) rfl rfl rfl Tryz.underlying30 sz5_1 (by omega) (by omega)) ?_
 refine tk (i := 3) rfl (by kernel_rfl) rfl trivial (fun _ _ => r_mv (v := .pointer _) rfl) ?_
 refine tk (i := 4) rfl (by kernel_rfl) rfl trivial (fun _ _ => r_nc rfl) ?_
 refine tk (i := 5) rfl (by kernel_rfl) rfl trivial (fun _ _ => r_fa rfl fo106_12) ?_
 refine unfree ?_
 refine holdH H [7] ?_
 refine tk (i := 0) rfl (by kernel_rfl) rfl H (fun w' H => r_lw (vs := []) rfl ag143_0 rfl (by simp)) ?_
 refine tk (i := 6) rfl (by kernel_rfl) rfl H (fun w' H => r_ld H rfl sc28 rfl) ?_
 refine fb (i := 7) (by kernel_rfl) rfl rfl rfl ?_
 refine cl ca71 (c_PutUint64 _ b1 _ _ _ _ _ _ (H.look (b := b1)) (by omega) (by omega) (by omega)) rfl ?_
 rintro _ w14 ⟨rfl, hpl9, F, hnew⟩
 replace H := H.put (b := b1) F hnew; clear F hnew
 refine nl ?_
 refine then_n ?_
 refine dn (by kernel_rfl) ?_
 refine then_n ?_
 refine sq ?_
 refine dr (by kernel_rfl) ?_
 have H := H.drew
 refine hold (fun _ => True) [] ?_
 refine tk (i := 1) rfl (by kernel_rfl) rfl trivial (fun _ _ => r_mv (v := .slice _ _ _) rfl) ?_
 refine tk (i := 2) rfl (by kernel_rfl) rfl trivial (fun _ _ => r_sllhN (48) (8) (464) rfl rfl rfl Tryz.underlying30 sz5_1 (by omega) (by omega)) ?_
 refine tk (i := 3) rfl (by kernel_rfl) rfl trivial (fun _ _ => r_mv (v := .pointer _) rfl) ?_
 refine tk (i := 4) rfl (by kernel_rfl) rfl trivial (fun _ _ => r_nc rfl) ?_
 refine tk (i := 5) rfl (by kernel_rfl) rfl trivial (fun _ _ => r_fa rfl fo106_13) ?_
 refine unfree ?_
 refine holdH H [7] ?_
 refine tk (i := 0) rfl (by kernel_rfl) rfl H (fun w' H => r_lw (vs := []) rfl ag143_0 rfl (by simp)) ?_
 refine tk (i := 6) rfl (by kernel_rfl) rfl H (fun w' H => r_ld H rfl sc28 rfl) ?_
 refine fb (i := 7) (by kernel_rfl) rfl rfl rfl ?_
 refine cl ca71 (c_PutUint64 _ b1 _ _ _ _ _ _ (H.look (b := b1)) (by omega) (by omega) (by omega)) rfl ?_
 rintro _ w15 ⟨rfl, hpl9, F, hnew⟩
 replace H := H.put (b := b1) F hnew; clear F hnew
 refine nl ?_
 refine then_n ?_
 refine dn (by kernel_rfl) ?_
 refine then_n ?_
 refine sq ?_
 refine rg ?_
 refine al H ze138 rfl ?_
 clear H; intro b7 w16 hb7 H _
 refine nl ?_
 refine then_n ?_
 refine sq ?_
 refine sq ?_
 refine rg ?_
 refine mv (v := .pointer _) rfl rfl ?_
 refine nc rfl rfl ?_
 refine fa rfl fo106_3 rfl ?_
 refine ld H rfl sc9 rfl rfl ?_
 refine eqlT rfl rfl rfl ?_
 refine nl ?_
 refine then_n ?_
 refine cF rfl (gu_ne hgu) ?_
 refine sq ?_
 refine rg ?_
 refine asg (v := .nilIface) rfl rfl ?_
 refine nl ?_
 refine then_n ?_
 refine sq ?_
 refine rg ?_
 refine mv (v := .pointer _) rfl rfl ?_
 refine nc rfl rfl ?_
 refine fa rfl fo106_3 rfl ?_
 refine ld H rfl sc9 rfl rfl ?_
 refine cl ca72 (c_parse _ g hgu) rfl ?_
 rintro _ w17 ⟨rfl, F⟩
 replace H := H.keep F; clear F
 refine mv (v := .tuple _) rfl rfl ?_
 refine xt rfl rfl rfl ?_
 refine xt rfl rfl rfl ?_
 refine sa (cs' := Bs (parB g)) H rfl rfl ag138_16 rfl (List.all_eq_true.2 Bs_one) (by show 0 + 16 ≤ 16; decide) (by omega) (List.append_nil _) ?_
 clear H; intro w91 H _
 refine asg (v := .nilIface) rfl rfl ?_
 refine nl ?_
 refine then_n ?_
 refine sq ?_
 refine rg ?_
 refine mv (v := .nilIface) rfl rfl ?_
 refine neqI0 rfl Tryz.underlying73 rfl ?_
 refine nl ?_
 refine then_n ?_
 refine cbF rfl rfl ?_
 refine sk ?_
 refine then_n ?_
 refine sq ?_
 refine dr (by kernel_rfl) ?_
 have H := H.drew
 refine hold (fun _ => True) [] ?_
 refine tk (i := 0) rfl (by kernel_rfl) rfl trivial (fun _ _ => r_mv (v := .slice _ _ _) rfl) ?_
 refine tk (i := 1) rfl (by kernel_rfl) rfl trivial (fun _ _ => r_sllhN (56) (16) (456) rfl rfl rfl Tryz.underlying30 sz5_1 (by omega) (by omega)) ?_
 refine tk (i := 2) rfl (by kernel_rfl) rfl trivial (fun _ _ => r_slYlh rfl rfl rfl Tryz.underlying138 sz5_1 (by first | trivial | omega | (simp; omega))) ?_
 refine unfree ?_
 refine fo (i := 3) (by kernel_rfl) rfl rfl ?_
 refine cl ca73 (c_toUUID _ (some ⟨b7, 0, none⟩) 16 16 (parB g) (RB.allm (b := b7) H rfl) rfl (by decide) ⟨_, _, rfl⟩) rfl ?_
 rintro _ w18 ⟨b8, cq8, jk8, rfl, hb8, ho8, F⟩
 replace H := H.new F hb8 ho8; clear F ho8
 refine nl ?_
 refine then_n ?_
 refine fo (i := 4) (by kernel_rfl) rfl rfl ?_
 refine cpP (bs := gB g) H rfl rfl Tryz.underlying30 sz5_1 (by rw [gB_ok hgu, ← perm_par]; exact RB.bj H (permB_len _)) (by decide) (by omega) (by omega) rfl ?_
 clear H; intro w19 H _ hl6
 refine nl ?_
 refine then_n ?_
 refine dn (by kernel_rfl) ?_
 refine then_n ?_
 refine sq ?_
 refine dr (by kernel_rfl) ?_
 have H := H.drew
 refine hold (fun _ => True) [] ?_
 refine tk (i := 1) rfl (by kernel_rfl) rfl trivial (fun _ _ => r_mv (v := .slice _ _ _) rfl) ?_
 refine tk (i := 2) rfl (by kernel_rfl) rfl trivial (fun _ _ => r_sllhN (72) (8) (440) rfl rfl rfl Tryz.underlying30 sz5_1 (by omega) (by omega)) ?_
 refine tk (i := 3) rfl (by kernel_rfl) rfl trivial (fun _ _ => r_mv (v := .pointer _) rfl) ?_
 refine tk (i := 4) rfl (by kernel_rfl) rfl trivial (fun _ _ => r_mv (v := .bool _) rfl) ?_
 refine unfree ?_
 refine holdH H [6] ?_
 refine tk (i := 0) rfl (by kernel_rfl) rfl H (fun w' H => r_lw (vs := []) rfl ag143_0 rfl (by simp)) ?_
 refine fk (i := 5) (by kernel_rfl) rfl rfl rfl ?_
 refine cl ca54 (c_pas _ t _ _ _ _ _ _ _ _ n hn true (H.look (b := t))) rfl ?_
 rintro _ w20 ⟨rfl, F⟩
 replace H := H.keep F; clear F
 refine nl ?_
 refine then_n ?_
 refine ⟨H, ?_⟩
 refine fb (i := 6) (by kernel_rfl) rfl rfl rfl ?_
 refine cl ca71 (c_PutUint64 _ b1 _ _ _ _ _ _ (H.look (b := b1)) (by omega) (by omega) (by omega)) rfl ?_
 rintro _ w21 ⟨rfl, hpl9, F, hnew⟩
 replace H := H.put (b := b1) F hnew; clear F hnew
 refine nl ?_
 refine then_n ?_
 refine dn (by kernel_rfl) ?_
 refine then_n ?_
 refine sq ?_
 refine dr (by kernel_rfl) ?_
 have H := H.drew
 refine hold (fun _ => True) [] ?_
 refine tk (i := 1) rfl (by kernel_rfl) rfl trivial (fun _ _ => r_mv (v := .slice _ _ _) rfl) ?_
 refine tk (i := 2) rfl (by kernel_rfl) rfl trivial (fun _ _ => r_sllhN (80) (4) (432) rfl rfl rfl Tryz.underlying30 sz5_1 (by omega) (by omega)) ?_
 refine tk (i := 3) rfl (by kernel_rfl) rfl trivial (fun _ _ => r_mv (v := .pointer _) rfl) ?_
 refine tk (i := 4) rfl (by kernel_rfl) rfl trivial (fun _ _ => r_nc rfl) ?_
 refine tk (i := 5) rfl (by kernel_rfl) rfl trivial (fun _ _ => r_fa rfl fo106_6) ?_
 refine unfree ?_
 refine holdH H [8] ?_
 refine tk (i := 0) rfl (by kernel_rfl) rfl H (fun w' H => r_lw (vs := []) rfl ag143_0 rfl (by simp)) ?_
 refine fk (i := 6) (by kernel_rfl) rfl rfl rfl ?_
 refine ld H rfl sc3 rfl rfl ?_
 refine nl ?_
 refine then_n ?_
 refine ⟨H, ?_⟩
 refine tk (i := 7) rfl (by kernel_rfl) rfl H (fun w' H => r_cvi rfl rfl Tryz.underlying58 (by first | exact w_u32 (by omega) | exact w_u32 (rng_u32 _) | exact m_u32 _)) ?_
 refine fb (i := 8) (by kernel_rfl) rfl rfl rfl ?_
 refine cl ca74 (c_PutUint32 _ b1 _ _ _ _ _ _ (H.look (b := b1)) (by omega) (by omega) (by omega)) rfl ?_
 rintro _ w22 ⟨rfl, hpl9, F, hnew⟩
 replace H := H.put (b := b1) F hnew; clear F hnew
 refine nl ?_
 refine then_n ?_
 refine dn (by kernel_rfl) ?_
 refine then_n ?_
 refine sq ?_
 refine dr (by kernel_rfl) ?_
 have H := H.drew
 refine hold (fun _ => True) [] ?_
 refine tk (i := 1) rfl (by kernel_rfl) rfl trivial (fun _ _ => r_mv (v := .slice _ _ _) rfl) ?_
 refine tk (i := 2) rfl (by kernel_rfl) rfl trivial (fun _ _ => r_sllhN (84) (4) (428) rfl rfl rfl Tryz.underlying30 sz5_1 (by omega) (by omega)) ?_
 refine unfree ?_
 refine holdH H [3] ?_
 refine tk (i := 0) rfl (by kernel_rfl) rfl H (fun w' H => r_lw (vs := []) rfl ag143_0 rfl (by simp)) ?_
 refine fb (i := 3) (by kernel_rfl) rfl rfl rfl ?_
 refine cl ca74 (c_PutUint32 _ b1 _ _ _ _ _ _ (H.look (b := b1)) (by omega) (by omega) (by omega)) rfl ?_
 rintro _ w23 ⟨rfl, hpl9, F, hnew⟩
 replace H := H.put (b := b1) F hnew; clear F hnew
 refine nl ?_
 refine then_n ?_
 refine dn (by kernel_rfl) ?_
 refine then_n ?_
 refine sq ?_
 refine rg ?_
 have hcl : (pAt (pAt (pAt (pAt (pAt (pAt (pAt (pAt (pAt (pAt (pAt (pAt (pAt (List.replicate 512 0) 0 (efiL)) 8 ([0, 0, 1, 0])) 12 ([92, 0, 0, 0])) 16 ([0, 0, 0, 0])) 20 ([0, 0, 0, 0])) 24 (leB 8 1)) 32 (leB 8 ((n : Int) - 1))) 40 (leB 8 34)) 48 (leB 8 ((n : Int) - 34))) 56 (gB g)) 72 (leB 8 2)) 80 (leB 4 128)) 84 (leB 4 128)).length = 512 := hpl9.trans (by omega)
 replace H : SH w (l.map Prod.fst) _ ([⟨b1, .cells (Bs (pAt (pAt (pAt (pAt (pAt (pAt (pAt (pAt (pAt (pAt (pAt (pAt (pAt (List.replicate 512 0) 0 (efiL)) 8 ([0, 0, 1, 0])) 12 ([92, 0, 0, 0])) 16 ([0, 0, 0, 0])) 20 ([0, 0, 0, 0])) 24 (leB 8 1)) 32 (leB 8 ((n : Int) - 1))) 40 (leB 8 34)) 48 (leB 8 ((n : Int) - 34))) 56 (gB g)) 72 (leB 8 2)) 80 (leB 4 128)) 84 (leB 4 128))).toArray 5 (0, 0), true⟩] ++ (⟨t, .cells (tbC D m cap 512 512 g pr rb 128 128 frm crc 1 ((n : Int) - 1) 34 ((n : Int) - 34) true).toArray 106 (0, 0), false⟩ :: ents 126 l)) := H.subX
 have hrow5 : ∀ j x, l[j]? = some x → ∃ ad, D = some ad ∧ World.cell? _ (ad.add j) = some (.pointer (some ⟨x.1, 0, none⟩)) := fun j x hx => by
  obtain ⟨ad, e, hc⟩ := hrow j x hx
  exact ⟨ad, e, H.fr.cell hc (by rw [add_block]; exact hDn _ e)⟩
 refine mv (v := .pointer _) rfl rfl ?_
 refine cl ca53 (c_partArr _ t _ _ _ _ _ _ _ _ _ _ _ _ _ l ps y1 y2 hsnd hlen hrow5 hDn n hg hn hok hft hm (H.rebase rfl)) rfl ?_
 rintro _ w24 ⟨q, l2, rfl, hb2, hs2, K⟩
 replace H := H.joinE (A := [_, _]) (Y := [_]) K hb2 (by simp)
 replace H : SH w (l.map Prod.fst) w24 (_ :: _ :: _ :: ents 126 l2) := H
 refine mv (v := .tuple _) rfl rfl ?_
 refine xt rfl rfl rfl ?_
 refine xt rfl rfl rfl ?_
 refine asg (v := .slice _ _ _) rfl rfl ?_
 refine asg (v := .nilIface) rfl rfl ?_
 refine nl ?_
 refine then_n ?_
 refine sq ?_
 refine sq ?_
 refine rg ?_
 refine mv (v := .nilIface) rfl rfl ?_
 refine neqI0 rfl Tryz.underlying73 rfl ?_
 refine nl ?_
 refine then_n ?_
 refine cbF rfl rfl ?_
 refine sk ?_
 refine then_n ?_
 refine sq ?_
 refine rg ?_
 refine mv (v := .slice _ _ _) rfl rfl ?_
 refine cl ca75 (c_zzCrc _ _ _ _ (arrB ps) (RB.allm (b := q) H hal) (by decide)) rfl ?_
 rintro _ w25 ⟨rfl, F⟩
 replace H := H.keep F; clear F
 refine asg (v := .int .u32 _) rfl rfl ?_
 refine nl ?_
 refine then_n ?_
 refine sq ?_
 refine dr (by kernel_rfl) ?_
 have H := H.drew
 refine hold (fun _ => True) [] ?_
 refine tk (i := 1) rfl (by kernel_rfl) rfl trivial (fun _ _ => r_mv (v := .slice _ _ _) rfl) ?_
 refine tk (i := 2) rfl (by kernel_rfl) rfl trivial (fun _ _ => r_sllhN (88) (4) (424) rfl rfl rfl Tryz.underlying30 sz5_1 (by omega) (by omega)) ?_
 refine tk (i := 3) rfl (by kernel_rfl) rfl trivial (fun _ _ => r_mv (v := .int .u32 _) rfl) ?_
 refine unfree ?_
 refine holdH H [4] ?_
 refine tk (i := 0) rfl (by kernel_rfl) rfl H (fun w' H => r_lw (vs := []) rfl ag143_0 rfl (by simp)) ?_
 refine fb (i := 4) (by kernel_rfl) rfl rfl rfl ?_
 refine cl ca74 (c_PutUint32 _ b1 _ _ _ _ _ _ (H.look (b := b1)) (by omega) (by omega) (by omega)) rfl ?_
 rintro _ w26 ⟨rfl, hpl9, F, hnew⟩
 replace H := H.put (b := b1) F hnew; clear F hnew
 refine nl ?_
 refine then_n ?_
 refine dn (by kernel_rfl) ?_
 refine then_n ?_
 refine sq ?_
 refine rg ?_
 rw [hdr_put2 (gB_len g)] at H
 refine mv (v := .slice _ _ _) rfl rfl ?_
 refine sllhN (0) (92) (512) rfl rfl rfl Tryz.underlying30 sz5_1 (by omega) (by omega) rfl ?_
 refine cl ca75 (c_zzCrc _ _ _ _ (hdrS 0 1 ((n : Int) - 1) 2 (n : Int) (gB g) (crc32 (arrB ps))) (by have e := RB.of (b := b1) (o := 0) (n := 92) H (by rw [List.length_append, hdrS_len hgl, List.length_replicate]; decide); rw [hdr_take hgl] at e; exact e) (by decide)) rfl ?_
 rintro _ w27 ⟨rfl, F⟩
 replace H := H.keep F; clear F
 have hcr2 := hdrS_rng (hdrS 0 1 ((n : Int) - 1) 2 (n : Int) (gB g) (crc32 (arrB ps)))
 have hl7 : (hdrS 0 1 ((n : Int) - 1) 2 (n : Int) (gB g) (crc32 (arrB ps)) ++ List.replicate 420 0).length = 512 := by rw [List.length_append, hdrS_len hgl, List.length_replicate]
 refine asg (v := .int .u32 _) rfl rfl ?_
 refine nl ?_
 refine then_n ?_
 refine sq ?_
 refine dr (by kernel_rfl) ?_
 have H := H.drew
 refine hold (fun _ => True) [] ?_
 refine tk (i := 1) rfl (by kernel_rfl) rfl trivial (fun _ _ => r_mv (v := .slice _ _ _) rfl) ?_
 refine tk (i := 2) rfl (by kernel_rfl) rfl trivial (fun _ _ => r_sllhN (16) (4) (496) rfl rfl rfl Tryz.underlying30 sz5_1 (by omega) (by omega)) ?_
 refine tk (i := 3) rfl (by kernel_rfl) rfl trivial (fun _ _ => r_mv (v := .int .u32 _) rfl) ?_
 refine unfree ?_
 refine holdH H [4] ?_
 refine tk (i := 0) rfl (by kernel_rfl) rfl H (fun w' H => r_lw (vs := []) rfl ag143_0 rfl (by simp)) ?_
 refine fb (i := 4) (by kernel_rfl) rfl rfl rfl ?_
 refine cl ca74 (c_PutUint32 _ b1 _ _ _ _ _ _ (H.look (b := b1)) (by omega) (by omega) (by omega)) rfl ?_
 rintro _ w28 ⟨rfl, hpl9, F, hnew⟩
 replace H := H.put (b := b1) F hnew; clear F hnew
 refine nl ?_
 refine then_n ?_
 refine dn (by kernel_rfl) ?_
 refine then_n ?_
 refine sq ?_
 refine sq ?_
 refine rg ?_
 rw [hdr_sum (gB_len g)] at H
 replace H := sh_cells1 (cs' := Bs (hdrB 1 ((n : Int) - 1) 2 (n : Int) (gB g) (crc32 (arrB ps)))) H rfl
 refine asg (v := .int .i64 _) rfl rfl ?_
 refine nl ?_
 refine then_n ?_
 refine bk ?_
 refine lpM (α := Nat) [12, 155, 156, 157, 158, 159, 160, 161, 162, 163, 164, 165] (fun i => [(12, .int .i64 (i : Int))]) (fun i w' => 92 ≤ i ∧ i ≤ 512 ∧ SH w (l.map Prod.fst) w' (⟨b1, .cells (Bs (hdrB 1 ((n : Int) - 1) 2 (n : Int) (gB g) (crc32 (arrB ps)))).toArray 5 (0, 0), true⟩ :: ⟨t, .cells (tbC D m cap 512 512 g pr rb 128 128 frm crc 1 ((n : Int) - 1) 34 ((n : Int) - 34) true).toArray 106 (0, 0), false⟩ :: ents 126 l2)) (fun i => 512 - i) 92 ?_ (fCX (fN _)) ?_
 ·exact ⟨by omega, by omega, H.subX⟩
 ·rintro i ρx w29 ⟨hi1, hi, H⟩
  have hhl : (hdrB 1 ((n : Int) - 1) 2 (n : Int) (gB g) (crc32 (arrB ps))).length = 512 := hdrB_len hgl
  refine sq ?_
  refine sq ?_
  refine rg ?_
  refine mv (v := .int .i64 _) rfl rfl ?_
  refine mv (v := .pointer _) rfl rfl ?_
  refine nc rfl rfl ?_
  refine fa rfl fo106_1 rfl ?_
  refine ld H rfl sc3 rfl rfl ?_
  refine lss rfl rfl rfl ?_
  refine nl ?_
  refine then_n ?_
  refine cd rfl (fun hc5 => ?_) (fun hc5 => ?_)
  ·refine sk ?_
   refine then_n ?_
   refine sq ?_
   refine bk ?_
   refine rg ?_
   refine mv (v := .slice _ _ _) rfl rfl ?_
   refine mv (v := .int .i64 _) rfl rfl ?_
   refine iaN (i) rfl rfl Tryz.underlying30 sz5_1 (by omega) (by omega) rfl ?_
   refine stb H rfl rfl sc5 (by decide) (by omega) (by omega) ?_
   clear H; intro w92 H _
   refine nl ?_
   refine in_n ?_
   refine then_n ?_
   refine rg ?_
   refine mv (v := .int .i64 _) rfl rfl ?_
   refine add rfl rfl (by first | exact w_i64 (by omega) | exact w_i64 (rng_i64 _) | rfl) rfl ?_
   refine asg (v := .int .i64 _) rfl rfl ?_
   refine nl ?_
   refine loop_n ?_
   exact ⟨i + 1, (by (try dsimp only); omega), ⟨by omega, by omega, by rw [hdr_zero hgl ⟨by omega, by omega⟩] at H; exact H⟩, (fCX (fN _)), agX⟩
  ·refine ex ?_
   refine then_e ?_
   refine loop_e ?_
   refine in_hit rfl ?_
   refine then_n ?_
   refine sq ?_
   refine rg ?_
   refine mv (v := .slice _ _ _) rfl rfl ?_
   refine asg (v := .slice _ _ _) rfl rfl ?_
   refine asg (v := .nilIface) rfl rfl ?_
   refine nl ?_
   refine then_n ?_
   refine rt ?_
   refine fin_r ?_
   exact ⟨b1, l2, rfl, hb2, hs2, H.subX⟩
set_option maxRecDepth 100000 in
set_option maxHeartbeats 8000000 in
theorem c_toGptF (w : World) (t : Nat) (D : Option Addr) (m cap : Nat) (g : List UInt8) (pr rb : Bool) (frm crc : Int) (n : Nat) (hn : 80 ≤ n ∧ n ≤ 1000000) (l : PL) (ps : List GP) (y1 y2 : Value) (hsnd : l.map Prod.snd = ps.map (pcY y1 y2)) (hlen : l.length = m) (hrow : ∀ j x, l[j]? = some x → ∃ ad, D = some ad ∧ w.cell? (ad.add j) = some (.pointer (some ⟨x.1, 0, none⟩))) (hDn : ∀ ad, D = some ad → ad.block ∉ l.map Prod.fst) (hg : goodL n ps) (hok : ∀ p ∈ ps, p.ok) (hft : ∀ p ∈ ps, p.fit) (hm : m ≤ 200) (hgu : gOk g = true) (H0 : SH w (l.map Prod.fst) w (⟨t, .cells (tbC D m cap 512 512 g pr rb 128 128 frm crc 1 ((n : Int) - 1) 34 ((n : Int) - 34) true).toArray 106 (0, 0), false⟩ :: ents 126 l)) : Calls Tryz.prog 52 #[.pointer (some ⟨t, 0, none⟩), .bool false] w (Ret fun v w' => ∃ q l', v = .tuple #[.slice (some ⟨q, 0, none⟩) 512 512, .nilIface] ∧ l'.map Prod.fst = l.map Prod.fst ∧ l'.map Prod.snd = (ps.map upG).map (pcY y1 y2) ∧ SH w (l.map Prod.fst) w' (⟨q, .cells (Bs (hdrB ((n : Int) - 1) 1 ((n : Int) - 33) (n : Int) (gB g) (crc32 (arrB ps)))).toArray 5 (0, 0), true⟩ :: ents 126 l')) := by
 refine enter (fun ρ => .tuple #[ρ 4, ρ 5]) Tryz.func52 rfl rfl rfl (res2 rfl) ?_
 have H := H0
 have h0 : (List.replicate 512 (0 : UInt8)).length = 512 := List.length_replicate
 have hgl := gB_len g
 have hfs : ∀ p ∈ ps, p.fits := fun p hp => (hg.1 p hp).fits
 have hal := arrB_len hfs
 have hcr := hdrS_rng (arrB ps)
 refine sq ?_
 refine rg ?_
 refine asg (v := .slice _ _ _) rfl rfl ?_
 refine asg (v := .nilIface) rfl rfl ?_
 refine nl ?_
 refine then_n ?_
 refine sq ?_
 refine rg ?_
 refine mv (v := .pointer _) rfl rfl ?_
 refine nc rfl rfl ?_
 refine fa rfl fo106_1 rfl ?_
 refine ld H rfl sc3 rfl rfl ?_
 refine mkB H rfl rfl Tryz.underlying30 mi5 (by omega) (by omega) (by omega) (by omega) rfl ?_
 clear H; intro b1 w1 hb1 H _
 replace H := sh_cells0 (cs' := Bs (List.replicate 512 0)) H rfl
 refine asg (v := .slice _ _ _) rfl rfl ?_
 refine nl ?_
 refine then_n ?_
 refine sq ?_
 refine dr (by kernel_rfl) ?_
 have H := H.drew
 refine hold (fun _ => True) [] ?_
 refine tk (i := 0) rfl (by kernel_rfl) rfl trivial (fun _ _ => r_mv (v := .slice _ _ _) rfl) ?_
 refine tk (i := 1) rfl (by kernel_rfl) rfl trivial (fun _ _ => r_sllhN (0) (8) (512) rfl rfl rfl Tryz.underlying30 sz5_1 (by omega) (by omega)) ?_
 refine unfree ?_
 refine fo (i := 2) (by kernel_rfl) rfl rfl ?_
 refine cl ca67 (c_getSig _) rfl ?_
 rintro _ w2 ⟨b2, rfl, hb2, ho2, F⟩
 replace H := H.new F hb2 ho2; clear F ho2
 refine nl ?_
 refine then_n ?_
 refine fo (i := 3) (by kernel_rfl) rfl rfl ?_
 refine cpP (bs := efiL) H rfl rfl Tryz.underlying30 sz5_1 (RB.allL efiL H rfl) (by decide) (by omega) (by omega) rfl ?_
 clear H; intro w3 H _ hl1
 refine nl ?_
 refine then_n ?_
 refine dn (by kernel_rfl) ?_
 refine then_n ?_
 refine sq ?_
 refine dr (by kernel_rfl) ?_
 have H := H.drew
 refine hold (fun _ => True) [] ?_
 refine tk (i := 0) rfl (by kernel_rfl) rfl trivial (fun _ _ => r_mv (v := .slice _ _ _) rfl) ?_
 refine tk (i := 1) rfl (by kernel_rfl) rfl trivial (fun _ _ => r_sllhN (8) (4) (504) rfl rfl rfl Tryz.underlying30 sz5_1 (by omega) (by omega)) ?_
 refine unfree ?_
 refine fo (i := 2) (by kernel_rfl) rfl rfl ?_
 refine cl ca68 (c_getRev _) rfl ?_
 rintro _ w4 ⟨b3, rfl, hb3, ho3, F⟩
 replace H := H.new F hb3 ho3; clear F ho3
 refine nl ?_
 refine then_n ?_
 refine fo (i := 3) (by kernel_rfl) rfl rfl ?_
 refine cpP (bs := [0, 0, 1, 0]) H rfl rfl Tryz.underlying30 sz5_1 (RB.allL [0, 0, 1, 0] H rfl) (by decide) (by omega) (by omega) rfl ?_
 clear H; intro w5 H _ hl2
 refine nl ?_
 refine then_n ?_
 refine dn (by kernel_rfl) ?_
 refine then_n ?_
 refine sq ?_
 refine dr (by kernel_rfl) ?_
 have H := H.drew
 refine hold (fun _ => True) [] ?_
 refine tk (i := 0) rfl (by kernel_rfl) rfl trivial (fun _ _ => r_mv (v := .slice _ _ _) rfl) ?_
 refine tk (i := 1) rfl (by kernel_rfl) rfl trivial (fun _ _ => r_sllhN (12) (4) (500) rfl rfl rfl Tryz.underlying30 sz5_1 (by omega) (by omega)) ?_
 refine unfree ?_
 refine fo (i := 2) (by kernel_rfl) rfl rfl ?_
 refine cl ca69 (c_getHs _) rfl ?_
 rintro _ w6 ⟨b4, rfl, hb4, ho4, F⟩
 replace H := H.new F hb4 ho4; clear F ho4
 refine nl ?_
 refine then_n ?_
 refine fo (i := 3) (by kernel_rfl) rfl rfl ?_
 refine cpP (bs := [92, 0, 0, 0]) H rfl rfl Tryz.underlying30 sz5_1 (RB.allL [92, 0, 0, 0] H rfl) (by decide) (by omega) (by omega) rfl ?_
 clear H; intro w7 H _ hl3
 refine nl ?_
 refine then_n ?_
 refine dn (by kernel_rfl) ?_
 refine then_n ?_
 refine sq ?_
 refine rg ?_
 refine mv (v := .slice _ _ _) rfl rfl ?_
 refine sllhN (16) (4) (496) rfl rfl rfl Tryz.underlying30 sz5_1 (by omega) (by omega) rfl ?_
 refine bsl (sz := 1) (out := ?o1) H Tryz.underlying30 ze5 sz5_1 (by decide) ?f1 rfl ?_
 case f1 =>
  refine FS.one (v := .int .u8 _) rfl rfl rfl (by first | decide | simp) ?_
  refine FS.one (v := .int .u8 _) rfl rfl rfl (by first | decide | simp) ?_
  refine FS.one (v := .int .u8 _) rfl rfl rfl (by first | decide | simp) ?_
  refine FS.one (v := .int .u8 _) rfl rfl rfl (by first | decide | simp) ?_
  exact FS.nil
 clear H; intro b5 w8 hb5 H F
 refine cpP (bs := [0, 0, 0, 0]) H rfl rfl Tryz.underlying30 sz5_1 (RB.allL [0, 0, 0, 0] H rfl) (by decide) (by omega) (by omega) rfl ?_
 clear H; intro w9 H _ hl4
 refine nl ?_
 refine then_n ?_
 refine sq ?_
 refine dr (by kernel_rfl) ?_
 have H := H.drew
 refine hold (fun _ => True) [] ?_
 refine tk (i := 0) rfl (by kernel_rfl) rfl trivial (fun _ _ => r_mv (v := .slice _ _ _) rfl) ?_
 refine tk (i := 1) rfl (by kernel_rfl) rfl trivial (fun _ _ => r_sllhN (20) (4) (492) rfl rfl rfl Tryz.underlying30 sz5_1 (by omega) (by omega)) ?_
 refine unfree ?_
 refine fo (i := 2) (by kernel_rfl) rfl rfl ?_
 refine cl ca70 (c_getZ _) rfl ?_
 rintro _ w10 ⟨b6, rfl, hb6, ho6, F⟩
 replace H := H.new F hb6 ho6; clear F ho6
 refine nl ?_
 refine then_n ?_
 refine fo (i := 3) (by kernel_rfl) rfl rfl ?_
 refine cpP (bs := [0, 0, 0, 0]) H rfl rfl Tryz.underlying30 sz5_1 (RB.allL [0, 0, 0, 0] H rfl) (by decide) (by omega) (by omega) rfl ?_
 clear H; intro w11 H _ hl5
 refine nl ?_
 refine then_n ?_
 refine dn (by kernel_rfl) ?_
 refine then_n ?_
 refine sq ?_
 refine sq ?_
 refine rg ?_
 refine mv (v := .bool _) rfl rfl ?_
 refine nl ?_
 refine then_n ?_
 refine cbF rfl rfl ?_
 refine sq ?_
 refine dr (by kernel_rfl) ?_
 have H := H.drew
 refine hold (fun _ => True) [] ?_
 refine tk (i := 1) rfl (by kernel_rfl) rfl trivial (fun _ _ => r_mv (v := .slice _ _ _) rfl) ?_
 refine tk (i := 2) rfl (by kernel_rfl) rfl trivial (fun _ _ => r_sllhN (24) (8) (488) rfl rfl rfl Tryz.underlying30 sz5_1 (by omega) (by omega)) ?_
 refine tk (i := 3) rfl (by kernel_rfl) rfl trivial (fun _ _ => r_mv (v := .pointer _) rfl) ?_
 refine tk (i := 4) rfl (by kernel_rfl) rfl trivial (fun _ _ => r_nc rfl) ?_
 refine tk (i := 5) rfl (by kernel_rfl) rfl trivial (fun _ _ => r_fa rfl fo106_11) ?_
 refine unfree ?_
 refine holdH H [7] ?_
 refine tk (i := 0) rfl (by kernel_rfl) rfl H (fun w' H => r_lw (vs := []) rfl ag143_0 rfl (by simp)) ?_
 refine tk (i := 6) rfl (by kernel_rfl) rfl H (fun w' H => r_ld H rfl sc28 rfl) ?_
 refine fb (i := 7) (by kernel_rfl) rfl rfl rfl ?_
 refine cl ca71 (c_PutUint64 _ b1 _ _ _ _ _ _ (H.look (b := b1)) (by omega) (by omega) (by omega)) rfl ?_
 rintro _ w12 ⟨rfl, hpl9, F, hnew⟩
 replace H := H.put (b := b1) F hnew; clear F hnew
 refine nl ?_
 refine then_n ?_
 refine dn (by kernel_rfl) ?_
 refine then_n ?_
 refine dr (by kernel_rfl) ?_
 have H := H.drew
 refine hold (fun _ => True) [] ?_
 refine tk (i := 1) rfl (by kernel_rfl) rfl trivial (fun _ _ => r_mv (v := .slice _ _ _) rfl) ?_
 refine tk (i := 2) rfl (by kernel_rfl) rfl trivial (fun _ _ => r_sllhN (32) (8) (480) rfl rfl rfl Tryz.underlying30 sz5_1 (by omega) (by omega)) ?_
 refine tk (i := 3) rfl (by kernel_rfl) rfl trivial (fun _ _ => r_mv (v := .pointer _) rfl) ?_
 refine tk (i := 4) rfl (by kernel_rfl) rfl trivial (fun _ _ => r_nc rfl) ?_
 refine tk (i := 5) rfl (by kernel_rfl) rfl trivial (fun _ _ => r_fa rfl fo106_10) ?_
 refine unfree ?_
 refine holdH H [7] ?_
 refine tk (i := 0) rfl (by kernel_rfl) rfl H (fun w' H => r_lw (vs := []) rfl ag143_0 rfl (by simp)) ?_
 refine tk (i := 6) rfl (by kernel_rfl) rfl H (fun w' H => r_ld H rfl sc28 rfl) ?_
 refine fb (i := 7) (by kernel_rfl) rfl rfl rfl ?_
 refine cl ca71 (c_PutUint64 _ b1 _ _ _ _ _ _ (H.look (b := b1)) (by omega) (by omega) (by omega)) rfl ?_
 rintro _ w13 ⟨rfl, hpl9, F, hnew⟩
 replace H := H.put (b := b1) F hnew; clear F hnew
 refine nl ?_
 refine then_n ?_
 refine dn (by kernel_rfl) ?_
 refine then_n ?_
 refine sq ?_
 refine dr (by kernel_rfl) ?_
 have H := H.drew
 refine hold (fun _ => True) [] ?_
 refine tk (i := 1) rfl (by kernel_rfl) rfl trivial (fun _ _ => r_mv (v := .slice _ _ _) rfl) ?_
 refine tk (i := 2) rfl (by kernel_rfl) rfl trivial (fun _ _ => r_sllhN (40) (8) (472) rfl rfl rfl Tryz.underlying30 sz5_1 (by omega) (by omega)) ?_
 refine tk (i := 3) rfl (by kernel_rfl) rfl trivial (fun _ _ => r_mv (v := .pointer _) rfl) ?_
 refine tk (i := 4) rfl (by kernel_rfl) rfl trivial (fun _ _ => r_nc rfl) ?_
 refine tk (i := 5) rfl (by kernel_rfl) rfl trivial (fun _ _ => r_fa rfl fo106_12) ?_
 refine unfree ?_
 refine holdH H [7] ?_
 refine tk (i := 0) rfl (by kernel_rfl) rfl H (fun w' H => r_lw (vs := []) rfl ag143_0 rfl (by simp)) ?_
 refine tk (i := 6) rfl (by kernel_rfl) rfl H (fun w' H => r_ld H rfl sc28 rfl) ?_
 refine fb (i := 7) (by kernel_rfl) rfl rfl rfl ?_
 refine cl ca71 (c_PutUint64 _ b1 _ _ _ _ _ _ (H.look (b := b1)) (by omega) (by omega) (by omega)) rfl ?_
 rintro _ w14 ⟨rfl, hpl9, F, hnew⟩
 replace H := H.put (b := b1) F hnew; clear F hnew
 refine nl ?_
 refine then_n ?_
 refine dn (by kernel_rfl) ?_
 refine then_n ?_
 refine sq ?_
 refine dr (by kernel_rfl) ?_
 have H := H.drew
 refine hold (fun _ => True) [] ?_
 refine tk (i := 1) rfl (by kernel_rfl) rfl trivial (fun _ _ => r_mv (v := .slice _ _ _) rfl) ?_
 refine tk (i := 2) rfl (by kernel_rfl) rfl trivial (fun _ _ => r_sllhN (48) (8) (464) rfl rfl rfl Tryz.underlying30 sz5_1 (by omega) (by omega)) ?_
 refine tk (i := 3) rfl (by kernel_rfl) rfl trivial (fun _ _ => r_mv (v := .pointer _) rfl) ?_
 refine tk (i := 4) rfl (by kernel_rfl) rfl trivial (fun _ _ => r_nc rfl) ?_
 refine tk (i := 5) rfl (by kernel_rfl) rfl trivial (fun _ _ => r_fa rfl fo106_13) ?_
 refine unfree ?_
 refine holdH H [7] ?_
 refine tk (i := 0) rfl (by kernel_rfl) rfl H (fun w' H => r_lw (vs := []) rfl ag143_0 rfl (by simp)) ?_
 refine tk (i := 6) rfl (by kernel_rfl) rfl H (fun w' H => r_ld H rfl sc28 rfl) ?_
 refine fb (i := 7) (by kernel_rfl) rfl rfl rfl ?_
 refine cl ca71 (c_PutUint64 _ b1 _ _ _ _ _ _ (H.look (b := b1)) (by omega) (by omega) (by omega)) rfl ?_
 rintro _ w15 ⟨rfl, hpl9, F, hnew⟩
 replace H := H.put (b := b1) F hnew; clear F hnew
 refine nl ?_
 refine then_n ?_
 refine dn (by kernel_rfl) ?_
 refine then_n ?_
 refine sq ?_
 refine rg ?_
 refine al H ze138 rfl ?_
 clear H; intro b7 w16 hb7 H _
 refine nl ?_
 refine then_n ?_
 refine sq ?_
 refine sq ?_
 refine rg ?_
 refine mv (v := .pointer _) rfl rfl ?_
 refine nc rfl rfl ?_
 refine fa rfl fo106_3 rfl ?_
 refine ld H rfl sc9 rfl rfl ?_
 refine eqlT rfl rfl rfl ?_
 refine nl ?_
 refine then_n ?_
 refine cF rfl (gu_ne hgu) ?_
 refine sq ?_
 refine rg ?_
 refine asg (v := .nilIface) rfl rfl ?_
 refine nl ?_
 refine then_n ?_
 refine sq ?_
 refine rg ?_
 refine mv (v := .pointer _) rfl rfl ?_
 refine nc rfl rfl ?_
 refine fa rfl fo106_3 rfl ?_
 refine ld H rfl sc9 rfl rfl ?_
 refine cl ca72 (c_parse _ g hgu) rfl ?_
 rintro _ w17 ⟨rfl, F⟩
 replace H := H.keep F; clear F
 refine mv (v := .tuple _) rfl rfl ?_
 refine xt rfl rfl rfl ?_
 refine xt rfl rfl rfl ?_
 refine sa (cs' := Bs (parB g)) H rfl rfl ag138_16 rfl (List.all_eq_true.2 Bs_one) (by show 0 + 16 ≤ 16; decide) (by omega) (List.append_nil _) ?_
 clear H; intro w91 H _
 refine asg (v := .nilIface) rfl rfl ?_
 refine nl ?_
 refine then_n ?_
 refine sq ?_
 refine rg ?_
 refine mv (v := .nilIface) rfl rfl ?_
 refine neqI0 rfl Tryz.underlying73 rfl ?_
 refine nl ?_
 refine then_n ?_
 refine cbF rfl rfl ?_
 refine sk ?_
 refine then_n ?_
 refine sq ?_
 refine dr (by kernel_rfl) ?_
 have H := H.drew
 refine hold (fun _ => True) [] ?_
 refine tk (i := 0) rfl (by kernel_rfl) rfl trivial (fun _ _ => r_mv (v := .slice _ _ _) rfl) ?_
 refine tk (i := 1) rfl (by kernel_rfl) rfl trivial (fun _ _ => r_sllhN (56) (16) (456) rfl rfl rfl Tryz.underlying30 sz5_1 (by omega) (by omega)) ?_
 refine tk (i := 2) rfl (by kernel_rfl) rfl trivial (fun _ _ => r_slYlh rfl rfl rfl Tryz.underlying138 sz5_1 (by first | trivial | omega | (simp; omega))) ?_
 refine unfree ?_
 refine fo (i := 3) (by kernel_rfl) rfl rfl ?_
 refine cl ca73 (c_toUUID _ (some ⟨b7, 0, none⟩) 16 16 (parB g) (RB.allm (b := b7) H rfl) rfl (by decide) ⟨_, _, rfl⟩) rfl ?_
 rintro _ w18 ⟨b8, cq8, jk8, rfl, hb8, ho8, F⟩
 replace H := H.new F hb8 ho8; clear F ho8
 refine nl ?_
 refine then_n ?_
 refine fo (i := 4) (by kernel_rfl) rfl rfl ?_
 refine cpP (bs := gB g) H rfl rfl Tryz.underlying30 sz5_1 (by rw [gB_ok hgu, ← perm_par]; exact RB.bj H (permB_len _)) (by decide) (by omega) (by omega) rfl ?_
 clear H; intro w19 H _ hl6
 refine nl ?_
 refine then_n ?_
 refine dn (by kernel_rfl) ?_
 refine then_n ?_
 refine sq ?_
 refine dr (by kernel_rfl) ?_
 have H := H.drew
 refine hold (fun _ => True) [] ?_
 refine tk (i := 1) rfl (by kernel_rfl) rfl trivial (fun _ _ => r_mv (v := .slice _ _ _) rfl) ?_
 refine tk (i := 2) rfl (by kernel_rfl) rfl trivial (fun _ _ => r_sllhN (72) (8) (440) rfl rfl rfl Tryz.underlying30 sz5_1 (by omega) (by omega)) ?_
 refine tk (i := 3) rfl (by kernel_rfl) rfl trivial (fun _ _ => r_mv (v := .pointer _) rfl) ?_
 refine tk (i := 4) rfl (by kernel_rfl) rfl trivial (fun _ _ => r_mv (v := .bool _) rfl) ?_
 refine unfree ?_
 refine holdH H [6] ?_
 refine tk (i := 0) rfl (by kernel_rfl) rfl H (fun w' H => r_lw (vs := []) rfl ag143_0 rfl (by simp)) ?_
 refine fk (i := 5) (by kernel_rfl) rfl rfl rfl ?_
 refine cl ca54 (c_pas _ t _ _ _ _ _ _ _ _ n hn false (H.look (b := t))) rfl ?_
 rintro _ w20 ⟨rfl, F⟩
 replace H := H.keep F; clear F
 refine nl ?_
 refine then_n ?_
 refine ⟨H, ?_⟩
 refine fb (i := 6) (by kernel_rfl) rfl rfl rfl ?_
 refine cl ca71 (c_PutUint64 _ b1 _ _ _ _ _ _ (H.look (b := b1)) (by omega) (by omega) (by omega)) rfl ?_
 rintro _ w21 ⟨rfl, hpl9, F, hnew⟩
 replace H := H.put (b := b1) F hnew; clear F hnew
 refine nl ?_
 refine then_n ?_
 refine dn (by kernel_rfl) ?_
 refine then_n ?_
 refine sq ?_
 refine dr (by kernel_rfl) ?_
 have H := H.drew
 refine hold (fun _ => True) [] ?_
 refine tk (i := 1) rfl (by kernel_rfl) rfl trivial (fun _ _ => r_mv (v := .slice _ _ _) rfl) ?_
 refine tk (i := 2) rfl (by kernel_rfl) rfl trivial (fun _ _ => r_sllhN (80) (4) (432) rfl rfl rfl Tryz.underlying30 sz5_1 (by omega) (by omega)) ?_
 refine tk (i := 3) rfl (by kernel_rfl) rfl trivial (fun _ _ => r_mv (v := .pointer _) rfl) ?_
 refine tk (i := 4) rfl (by kernel_rfl) rfl trivial (fun _ _ => r_nc rfl) ?_
 refine tk (i := 5) rfl (by kernel_rfl) rfl trivial (fun _ _ => r_fa rfl fo106_6) ?_
 refine unfree ?_
 refine holdH H [8] ?_
 refine tk (i := 0) rfl (by kernel_rfl) rfl H (fun w' H => r_lw (vs := []) rfl ag143_0 rfl (by simp)) ?_
 refine fk (i := 6) (by kernel_rfl) rfl rfl rfl ?_
 refine ld H rfl sc3 rfl rfl ?_
 refine nl ?_
 refine then_n ?_
 refine ⟨H, ?_⟩
 refine tk (i := 7) rfl (by kernel_rfl) rfl H (fun w' H => r_cvi rfl rfl Tryz.underlying58 (by first | exact w_u32 (by omega) | exact w_u32 (rng_u32 _) | exact m_u32 _)) ?_
 refine fb (i := 8) (by kernel_rfl) rfl rfl rfl ?_
 refine cl ca74 (c_PutUint32 _ b1 _ _ _ _ _ _ (H.look (b := b1)) (by omega) (by omega) (by omega)) rfl ?_
 rintro _ w22 ⟨rfl, hpl9, F, hnew⟩
 replace H := H.put (b := b1) F hnew; clear F hnew
 refine nl ?_
 refine then_n ?_
 refine dn (by kernel_rfl) ?_
 refine then_n ?_
 refine sq ?_
 refine dr (by kernel_rfl) ?_
 have H := H.drew
 refine hold (fun _ => True) [] ?_
 refine tk (i := 1) rfl (by kernel_rfl) rfl trivial (fun _ _ => r_mv (v := .slice _ _ _) rfl) ?_
 refine tk (i := 2) rfl (by kernel_rfl) rfl trivial (fun _ _ => r_sllhN (84) (4) (428) rfl rfl rfl Tryz.underlying30 sz5_1 (by omega) (by omega)) ?_
 refine unfree ?_
 refine holdH H [3] ?_
 refine tk (i := 0) rfl (by kernel_rfl) rfl H (fun w' H => r_lw (vs := []) rfl ag143_0 rfl (by simp)) ?_
 refine fb (i := 3) (by kernel_rfl) rfl rfl rfl ?_
 refine cl ca74 (c_PutUint32 _ b1 _ _ _ _ _ _ (H.look (b := b1)) (by omega) (by omega) (by omega)) rfl ?_
 rintro _ w23 ⟨rfl, hpl9, F, hnew⟩
 replace H := H.put (b := b1) F hnew; clear F hnew
 refine nl ?_
 refine then_n ?_
 refine dn (by kernel_rfl) ?_
 refine then_n ?_
 refine sq ?_
 refine rg ?_
 have hcl : (pAt (pAt (pAt (pAt (pAt (pAt (pAt (pAt (pAt (pAt (pAt (pAt (pAt (List.replicate 512 0) 0 (efiL)) 8 ([0, 0, 1, 0])) 12 ([92, 0, 0, 0])) 16 ([0, 0, 0, 0])) 20 ([0, 0, 0, 0])) 24 (leB 8 ((n : Int) - 1))) 32 (leB 8 1)) 40 (leB 8 34)) 48 (leB 8 ((n : Int) - 34))) 56 (gB g)) 72 (leB 8 ((n : Int) - 33))) 80 (leB 4 128)) 84 (leB 4 128)).length = 512 := hpl9.trans (by omega)
 replace H : SH w (l.map Prod.fst) _ ([⟨b1, .cells (Bs (pAt (pAt (pAt (pAt (pAt (pAt (pAt (pAt (pAt (pAt (pAt (pAt (pAt (List.replicate 512 0) 0 (efiL)) 8 ([0, 0, 1, 0])) 12 ([92, 0, 0, 0])) 16 ([0, 0, 0, 0])) 20 ([0, 0, 0, 0])) 24 (leB 8 ((n : Int) - 1))) 32 (leB 8 1)) 40 (leB 8 34)) 48 (leB 8 ((n : Int) - 34))) 56 (gB g)) 72 (leB 8 ((n : Int) - 33))) 80 (leB 4 128)) 84 (leB 4 128))).toArray 5 (0, 0), true⟩] ++ (⟨t, .cells (tbC D m cap 512 512 g pr rb 128 128 frm crc 1 ((n : Int) - 1) 34 ((n : Int) - 34) true).toArray 106 (0, 0), false⟩ :: ents 126 l)) := H.subX
 have hrow5 : ∀ j x, l[j]? = some x → ∃ ad, D = some ad ∧ World.cell? _ (ad.add j) = some (.pointer (some ⟨x.1, 0, none⟩)) := fun j x hx => by
  obtain ⟨ad, e, hc⟩ := hrow j x hx
  exact ⟨ad, e, H.fr.cell hc (by rw [add_block]; exact hDn _ e)⟩
 refine mv (v := .pointer _) rfl rfl ?_
 refine cl ca53 (c_partArr _ t _ _ _ _ _ _ _ _ _ _ _ _ _ l ps y1 y2 hsnd hlen hrow5 hDn n hg hn hok hft hm (H.rebase rfl)) rfl ?_
 rintro _ w24 ⟨q, l2, rfl, hb2, hs2, K⟩
 replace H := H.joinE (A := [_, _]) (Y := [_]) K hb2 (by simp)
 replace H : SH w (l.map Prod.fst) w24 (_ :: _ :: _ :: ents 126 l2) := H
 refine mv (v := .tuple _) rfl rfl ?_
 refine xt rfl rfl rfl ?_
 refine xt rfl rfl rfl ?_
 refine asg (v := .slice _ _ _) rfl rfl ?_
 refine asg (v := .nilIface) rfl rfl ?_
 refine nl ?_
 refine then_n ?_
 refine sq ?_
 refine sq ?_
 refine rg ?_
 refine mv (v := .nilIface) rfl rfl ?_
 refine neqI0 rfl Tryz.underlying73 rfl ?_
 refine nl ?_
 refine then_n ?_
 refine cbF rfl rfl ?_
 refine sk ?_
 refine then_n ?_
 refine sq ?_
 refine rg ?_
 refine mv (v := .slice _ _ _) rfl rfl ?_
 refine cl ca75 (c_zzCrc _ _ _ _ (arrB ps) (RB.allm (b := q) H hal) (by decide)) rfl ?_
 rintro _ w25 ⟨rfl, F⟩
 replace H := H.keep F; clear F
 refine asg (v := .int .u32 _) rfl rfl ?_
 refine nl ?_
 refine then_n ?_
 refine sq ?_
 refine dr (by kernel_rfl) ?_
 have H := H.drew
 refine hold (fun _ => True) [] ?_
 refine tk (i := 1) rfl (by kernel_rfl) rfl trivial (fun _ _ => r_mv (v := .slice _ _ _) rfl) ?_
 refine tk (i := 2) rfl (by kernel_rfl) rfl trivial (fun _ _ => r_sllhN (88) (4) (424) rfl rfl rfl Tryz.underlying30 sz5_1 (by omega) (by omega)) ?_
 refine tk (i := 3) rfl (by kernel_rfl) rfl trivial (fun _ _ => r_mv (v := .int .u32 _) rfl) ?_
 refine unfree ?_
 refine holdH H [4] ?_
 refine tk (i := 0) rfl (by kernel_rfl) rfl H (fun w' H => r_lw (vs := []) rfl ag143_0 rfl (by simp)) ?_
 refine fb (i := 4) (by kernel_rfl) rfl rfl rfl ?_
 refine cl ca74 (c_PutUint32 _ b1 _ _ _ _ _ _ (H.look (b := b1)) (by omega) (by omega) (by omega)) rfl ?_
 rintro _ w26 ⟨rfl, hpl9, F, hnew⟩
 replace H := H.put (b := b1) F hnew; clear F hnew
 refine nl ?_
 refine then_n ?_
 refine dn (by kernel_rfl) ?_
 refine then_n ?_
 refine sq ?_
 refine rg ?_
 rw [hdr_put2 (gB_len g)] at H
 refine mv (v := .slice _ _ _) rfl rfl ?_
 refine sllhN (0) (92) (512) rfl rfl rfl Tryz.underlying30 sz5_1 (by omega) (by omega) rfl ?_
 refine cl ca75 (c_zzCrc _ _ _ _ (hdrS 0 ((n : Int) - 1) 1 ((n : Int) - 33) (n : Int) (gB g) (crc32 (arrB ps))) (by have e := RB.of (b := b1) (o := 0) (n := 92) H (by rw [List.length_append, hdrS_len hgl, List.length_replicate]; decide); rw [hdr_take hgl] at e; exact e) (by decide)) rfl ?_
 rintro _ w27 ⟨rfl, F⟩
 replace H := H.keep F; clear F
 have hcr2 := hdrS_rng (hdrS 0 ((n : Int) - 1) 1 ((n : Int) - 33) (n : Int) (gB g) (crc32 (arrB ps)))
 have hl7 : (hdrS 0 ((n : Int) - 1) 1 ((n : Int) - 33) (n : Int) (gB g) (crc32 (arrB ps)) ++ List.replicate 420 0).length = 512 := by rw [List.length_append, hdrS_len hgl, List.length_replicate]
 refine asg (v := .int .u32 _) rfl rfl ?_
 refine nl ?_
 refine then_n ?_
 refine sq ?_
 refine dr (by kernel_rfl) ?_
 have H := H.drew
 refine hold (fun _ => True) [] ?_
 refine tk (i := 1) rfl (by kernel_rfl) rfl trivial (fun _ _ => r_mv (v := .slice _ _ _) rfl) ?_
 refine tk (i := 2) rfl (by kernel_rfl) rfl trivial (fun _ _ => r_sllhN (16) (4) (496) rfl rfl rfl Tryz.underlying30 sz5_1 (by omega) (by omega)) ?_
 refine tk (i := 3) rfl (by kernel_rfl) rfl trivial (fun _ _ => r_mv (v := .int .u32 _) rfl) ?_
 refine unfree ?_
 refine holdH H [4] ?_
 refine tk (i := 0) rfl (by kernel_rfl) rfl H (fun w' H => r_lw (vs := []) rfl ag143_0 rfl (by simp)) ?_
 refine fb (i := 4) (by kernel_rfl) rfl rfl rfl ?_
 refine cl ca74 (c_PutUint32 _ b1 _ _ _ _ _ _ (H.look (b := b1)) (by omega) (by omega) (by omega)) rfl ?_
 rintro _ w28 ⟨rfl, hpl9, F, hnew⟩
 replace H := H.put (b := b1) F hnew; clear F hnew
 refine nl ?_
 refine then_n ?_
 refine dn (by kernel_rfl) ?_
 refine then_n ?_
 refine sq ?_
 refine sq ?_
 refine rg ?_
 rw [hdr_sum (gB_len g)] at H
 replace H := sh_cells1 (cs' := Bs (hdrB ((n : Int) - 1) 1 ((n : Int) - 33) (n : Int) (gB g) (crc32 (arrB ps)))) H rfl
 refine asg (v := .int .i64 _) rfl rfl ?_
 refine nl ?_
 refine then_n ?_
 refine bk ?_
 refine lpM (α := Nat) [12, 155, 156, 157, 158, 159, 160, 161, 162, 163, 164, 165] (fun i => [(12, .int .i64 (i : Int))]) (fun i w' => 92 ≤ i ∧ i ≤ 512 ∧ SH w (l.map Prod.fst) w' (⟨b1, .cells (Bs (hdrB ((n : Int) - 1) 1 ((n : Int) - 33) (n : Int) (gB g) (crc32 (arrB ps)))).toArray 5 (0, 0), true⟩ :: ⟨t, .cells (tbC D m cap 512 512 g pr rb 128 128 frm crc 1 ((n : Int) - 1) 34 ((n : Int) - 34) true).toArray 106 (0, 0), false⟩ :: ents 126 l2)) (fun i => 512 - i) 92 ?_ (fCX (fN _)) ?_
 ·exact ⟨by omega, by omega, H.subX⟩
 ·rintro i ρx w29 ⟨hi1, hi, H⟩
  have hhl : (hdrB ((n : Int) - 1) 1 ((n : Int) - 33) (n : Int) (gB g) (crc32 (arrB ps))).length = 512 := hdrB_len hgl
  refine sq ?_
  refine sq ?_
  refine rg ?_
  refine mv (v := .int .i64 _) rfl rfl ?_
  refine mv (v := .pointer _) rfl rfl ?_
  refine nc rfl rfl ?_
  refine fa rfl fo106_1 rfl ?_
  refine ld H rfl sc3 rfl rfl ?_
  refine lss rfl rfl rfl ?_
  refine nl ?_
  refine then_n ?_
  refine cd rfl (fun hc5 => ?_) (fun hc5 => ?_)
  ·refine sk ?_
   refine then_n ?_
   refine sq ?_
   refine bk ?_
   refine rg ?_
   refine mv (v := .slice _ _ _) rfl rfl ?_
   refine mv (v := .int .i64 _) rfl rfl ?_
   refine iaN (i) rfl rfl Tryz.underlying30 sz5_1 (by omega) (by omega) rfl ?_
   refine stb H rfl rfl sc5 (by decide) (by omega) (by omega) ?_
   clear H; intro w92 H _
   refine nl ?_
   refine in_n ?_
   refine then_n ?_
   refine rg ?_
   refine mv (v := .int .i64 _) rfl rfl ?_
   refine add rfl rfl (by first | exact w_i64 (by omega) | exact w_i64 (rng_i64 _) | rfl) rfl ?_
   refine asg (v := .int .i64 _) rfl rfl ?_
   refine nl ?_
   refine loop_n ?_
   exact ⟨i + 1, (by (try dsimp only); omega), ⟨by omega, by omega, by rw [hdr_zero hgl ⟨by omega, by omega⟩] at H; exact H⟩, (fCX (fN _)), agX⟩
  ·refine ex ?_
   refine then_e ?_
   refine loop_e ?_
   refine in_hit rfl ?_
   refine then_n ?_
   refine sq ?_
   refine rg ?_
   refine mv (v := .slice _ _ _) rfl rfl ?_
   refine asg (v := .slice _ _ _) rfl rfl ?_
   refine asg (v := .nilIface) rfl rfl ?_
   refine nl ?_
   refine then_n ?_
   refine rt ?_
   refine fin_r ?_
   exact ⟨b1, l2, rfl, hb2, hs2, H.subX⟩
end Go.Proofs.YthcaejaaalkglaaGreatDoor.X
/- Calls that turn some of the blocks that are known; methods of embedded pointers; assertions to an interface. -/
namespace Go.Proofs.YthcaejaaalkglaaGreatDoor.X
set_option linter.unusedVariables false
open Go Go.RowKit
theorem SH.call {w0 w1 w2 : World} {S0 S : List Nat} {A M M' : List Ent} (H : SH w0 S0 w1 (A ++ M)) (K : SH w1 S w2 M') (hS : ∀ s ∈ S, ∃ x ∈ M, x.b = s ∧ x.m = true) (hm : ∀ y ∈ M', y.m = true) : SH w0 S0 w2 (A ++ M') := by
 have hp := List.pairwise_append.1 H.ap
 have hA : ∀ x ∈ A, x.b ∉ S := fun x hx h => by
  obtain ⟨y, hy, e, hym⟩ := hS _ h
  exact hp.2.2 x hx y hy (by simp [hym]) e.symm
 refine ⟨H.fr.then K.fr ?_, ?_, ?_, ?_⟩
 ·intro t ht
  obtain ⟨y, hy, e, hym⟩ := hS _ ht
  rw [← e]
  exact H.mu y (List.mem_append.2 (.inr hy)) hym
 ·intro x hx
  rcases List.mem_append.1 hx with hx | hx
  ·exact K.fr.at (H.get x (List.mem_append.2 (.inl hx))) (hA x hx)
  ·exact K.get x hx
 ·rw [List.pairwise_append]
  refine ⟨hp.1, K.ap, fun x hx y hy _ e => ?_⟩
  rcases K.mu y hy (hm y hy) with h | h
  ·exact hA x hx (e ▸ h)
  ·have h2 := lt_of_at (H.get x (List.mem_append.2 (.inl hx)))
   omega
 ·intro x hx hxm
  rcases List.mem_append.1 hx with hx | hx
  ·exact H.mu x (List.mem_append.2 (.inl hx)) hxm
  ·rcases K.mu x hx hxm with h | h
   ·obtain ⟨y, hy, e, hym⟩ := hS _ h
    rw [← e]
    exact H.mu y (List.mem_append.2 (.inr hy)) hym
   ·exact .inr (Nat.le_trans H.size h)
theorem SH.base {w0 w1 : World} {S0 : List Nat} {A M : List Ent} (H : SH w0 S0 w1 (A ++ M)) : SH w1 (M.map Ent.b) w1 M :=
 SH.init _ _ (fun x hx => H.get x (List.mem_append.2 (.inr hx))) (List.pairwise_append.1 H.ap).2.1 (fun x hx _ => List.mem_map.2 ⟨x, hx, rfl⟩)
def blkOf : Option Addr → List Nat
 | none => []
 | some ad => [ad.block]
def SD (M : List Ent) (D : Option Addr) : List Nat := M.map Ent.b ++ blkOf D
theorem OR.base {e : TypeId} {sz : Nat} {w0 w1 : World} {S0 : List Nat} {A M : List Ent} {D : Option Addr} {n cap : Nat} {xs : List Value} (O : OR e sz w0 S0 w1 (A ++ M) D n cap xs) : OR e sz w1 (SD M D) w1 M D n cap xs := by
 have hsub : ∀ s ∈ M.map Ent.b, s ∈ SD M D := fun s hs => List.mem_append.2 (.inl hs)
 have hB := O.sh.base
 refine ⟨O.len, ⟨Fr.refl _ _, hB.get, hB.ap, fun x hx hm => .inl (hsub _ (List.mem_map.2 ⟨x, hx, rfl⟩))⟩, ?_⟩
 rcases O.own with h | ⟨b, cur, rfl, h2, h3, h4, h5, h6⟩
 ·exact .inl h
 ·refine .inr ⟨b, cur, rfl, h2, h3, h4, h5, ?_⟩
  have hp := List.pairwise_cons.1 h6.ap
  refine ⟨Fr.refl _ _, ?_, ?_, ?_⟩
  ·intro x hx
   rcases List.mem_cons.1 hx with rfl | hx
   ·exact h6.get _ (.head _)
   ·exact hB.get x hx
  ·exact List.Pairwise.cons (fun y hy hm => hp.1 y (List.mem_append.2 (.inr hy)) hm) hB.ap
  ·intro x hx _
   rcases List.mem_cons.1 hx with rfl | hx
   ·exact .inl (List.mem_append.2 (.inr (by simp [blkOf])))
   ·exact .inl (hsub _ (List.mem_map.2 ⟨x, hx, rfl⟩))
theorem OR.call {e : TypeId} {sz : Nat} {w0 w1 w2 : World} {S0 : List Nat} {A M M' : List Ent} {D D' : Option Addr} {n cap n' cap' : Nat} {xs xs' : List Value} (O : OR e sz w0 S0 w1 (A ++ M) D n cap xs) (hM : ∀ y ∈ M, y.m = true) (K : OR e sz w1 (SD M D) w2 M' D' n' cap' xs') (hm : ∀ y ∈ M', y.m = true) : OR e sz w0 S0 w2 (A ++ M') D' n' cap' xs' := by
 have key : ∀ N' : List Ent, (∀ y ∈ N', y.m = true) → SH w1 (SD M D) w2 N' → SH w0 S0 w2 (A ++ N') := by
  intro N' hN K'
  rcases O.own with ⟨rfl, _⟩ | ⟨b, cur, rfl, _, _, _, _, h6⟩
  ·refine O.sh.call K' (fun s hs => ?_) hN
   simp only [SD, blkOf, List.append_nil] at hs
   obtain ⟨x, hx, rfl⟩ := List.mem_map.1 hs
   exact ⟨x, hx, rfl, hM x hx⟩
  ·have h7 : SH w0 S0 w1 (A ++ (⟨b, .cells cur.toArray e (0, 0), true⟩ :: M)) := h6.perm List.perm_middle.symm
   refine h7.call K' (fun s hs => ?_) hN
   rcases List.mem_append.1 hs with hs | hs
   ·obtain ⟨x, hx, rfl⟩ := List.mem_map.1 hs
    exact ⟨x, .tail _ hx, rfl, hM x hx⟩
   ·simp [blkOf] at hs
    exact ⟨_, .head _, hs.symm, rfl⟩
 refine ⟨K.len, key M' hm K.sh, ?_⟩
 rcases K.own with h | ⟨b, cur, h1, h2, h3, h4, h5, h6⟩
 ·exact .inl h
 ·refine .inr ⟨b, cur, h1, h2, h3, h4, h5, ?_⟩
  have h8 := key (⟨b, .cells cur.toArray e (0, 0), true⟩ :: M') (fun y hy => by
   rcases List.mem_cons.1 hy with rfl | hy
   ·rfl
   ·exact hm y hy) h6
  exact h8.perm List.perm_middle
section steps
variable {P : Program} {n : Nat} {ops : Array Oper} {Q : Post} {rest : List Oper} {ρ : Env} {w : World} {ty : TypeId} {pos : String} {af : Array Edge} {d : Nat}
theorem mc2 {recv : Operand} {name : String} {xs : List Operand} {ts : Array TypeId} {t : TypeId} {f : FuncId} {rv rv' : Value} {φ : Value → World → Prop} (hr : ev ρ recv = .iface t rv) (hm : ∀ w, (method (P.types.size + Made.depth) t rv name).run P w = .ok (f, rv') w) (hf : callable P f = true) (hc : Calls P f (rv' :: xs.map (ev ρ)).toArray w (Ret φ)) (hn : Nat.blt d n = true)
  (k : ∀ v w', φ v w' → wl P n ops Q rest (upd ρ d v) w') : wl P n ops Q (⟨some d, .call { callee := .invoke recv name, args := xs.toArray, argTypes := ts }, ty, pos, af, none⟩ :: rest) ρ w :=
 enterC rfl rfl hn (by
  have e2 : #[rv'] ++ (xs.map (ev ρ)).toArray = (rv' :: xs.map (ev ρ)).toArray := by simp
  have e3 : (callMethod (.iface t rv) name (xs.map (ev ρ)).toArray).run P w = .ok (.enter f (rv' :: xs.map (ev ρ)).toArray) w := by
   simp [callMethod, hm, run_callFunc hf, run_program]
  have e4 : List.take xs.length (List.map (ev ρ) xs) = List.map (ev ρ) xs := List.take_of_length_le (by simp)
  simp only [execOp, resolve, invoke, hr, Sem.run_bind, Sem.run_pure, Result.andThen_ok, List.map_toArray]
  simp [e3, e4]) hc k
theorem taI {x : Operand} {xt at_ : TypeId} {v r : Value} (hx : ev ρ x = v) (h : (Instr.typeAssert v xt at_ true).run P w = .ok r w) (hn : Nat.blt d n = true) (k : wl P n ops Q rest (upd ρ d r) w) : wl P n ops Q (⟨some d, .typeAssert x xt at_ true, ty, pos, af, none⟩ :: rest) ρ w :=
 val rfl rfl hn (by simp [execOp, hx, h]) k
end steps
structure St where
 k : Int
 d : List UInt8
 s : Bool
def St.cells (x : St) : List Value := [.int .i64 x.k, .string (str x.d), .bool x.s]
theorem St.cells_len (x : St) : x.cells.length = 3 := rfl
theorem St.cells_one (x : St) : x.cells.all Value.oneCell' = true := rfl
end Go.Proofs.YthcaejaaalkglaaGreatDoor.X
/- Walks of functions, printed by a program of this claim. -/
namespace Go.Proofs.YthcaejaaalkglaaGreatDoor.X
set_option linter.unusedVariables false
set_option linter.unusedSimpArgs false
open Go Go.RowKit
namespace PF
theorem bo46 : buildOK Tryz.prog 46 = true := by kernel_rfl
theorem ca122 : callable Tryz.prog 122 = true := by kernel_rfl
theorem ca124 : callable Tryz.prog 124 = true := by kernel_rfl
theorem ca56 : callable Tryz.prog 56 = true := by kernel_rfl
theorem fo76_2 : fieldOff Tryz.prog 76 2 = some 2 := by kernel_rfl
theorem fo76_3 : fieldOff Tryz.prog 76 3 = some 3 := by kernel_rfl
theorem fo84_0 : fieldOff Tryz.prog 84 0 = some 0 := by kernel_rfl
theorem me84_Sync : ∀ (v : Value) (w : World), (method (Tryz.prog.types.size + Made.depth) 84 v "Sync").run Tryz.prog w = .ok (124, v) w := fun v w => by kernel_rfl
theorem pl46_0 : placeOf Tryz.prog 46 0 = some (0, 1) := by kernel_rfl
theorem pl46_1 : placeOf Tryz.prog 46 1 = some (1, 1) := by kernel_rfl
theorem pl46_2 : placeOf Tryz.prog 46 2 = some (2, 1) := by kernel_rfl
theorem ri46 : rowInfo Tryz.prog 46 = some ([.int .i64 0, .string ⟨#[]⟩, .bool false], 32) := by kernel_rfl
theorem sc109 : scalarB Tryz.prog 109 = true := by kernel_rfl
theorem sc39 : scalarB Tryz.prog 39 = true := by kernel_rfl
theorem sc67 : scalarB Tryz.prog 67 = true := by kernel_rfl
theorem sz46_3 : sizeB Tryz.prog 46 3 = true := by kernel_rfl
theorem ze46 : zeroL Tryz.prog 46 = some [.int .i64 0, .string ⟨#[]⟩, .bool false] := by kernel_rfl
end PF
open PF
set_option maxRecDepth 100000 in
set_option maxHeartbeats 4000000 in
theorem c_writeAtK (w : World) (S : List Nat) (bm bd L c f2 : Nat) (x1 : Value) (T : TypeId) (ds : List UInt8) (DS : Option Addr) (ns cs : Nat) (sts : List St) (O0 : OR 46 3 w S w [⟨bm, .cells ([.slice (some ⟨bd, 0, none⟩) L c, x1, .bool true, .slice DS ns cs] : List Value).toArray 76 (0, 0), true⟩, ⟨bd, .cells (Bs (ds)).toArray T (c, f2), true⟩] DS (ns) cs ((sts : List St).flatMap St.cells)) (hL : L ≤ ds.length) (hLc : L ≤ c) (hc : L ≤ 1000000000) (hns : ns ≤ 100) (q o k n c2 : Nat) (xs : List UInt8) (hR : RB w (some ⟨q, o, none⟩) n xs) (hqS : q ∉ S) (hk : k + n ≤ L) (hn : 0 < n) : Calls Tryz.prog 122 #[.pointer (some ⟨bm, 0, none⟩), .slice (some ⟨q, o, none⟩) n c2, .int .i64 (k : Int)] w (Ret fun v w' => ∃ DS2 cs2, v = .tuple #[.int .i64 (n : Int), .nilIface] ∧ OR 46 3 w S w' [⟨bm, .cells ([.slice (some ⟨bd, 0, none⟩) L c, x1, .bool true, .slice DS2 (ns + 1) cs2] : List Value).toArray 76 (0, 0), true⟩, ⟨bd, .cells (Bs (pAt ds k xs)).toArray T (c, f2), true⟩] DS2 ((ns + 1)) cs2 ((sts ++ [⟨(k : Int), xs, false⟩] : List St).flatMap St.cells)) := by
 refine enter (fun ρ => .tuple #[ρ 6, ρ 7]) Tryz.func122 rfl rfl rfl (res2 rfl) ?_
 have O := O0
 have H := O.sh
 have hRl := hR.1
 refine sq ?_
 refine rg ?_
 refine asg (v := .int .i64 _) rfl rfl ?_
 refine asg (v := .nilIface) rfl rfl ?_
 refine nl ?_
 refine then_n ?_
 refine sq ?_
 refine sq ?_
 refine rg ?_
 refine mv (v := .int .i64 _) rfl rfl ?_
 refine lss rfl rfl rfl ?_
 refine mv (v := .bool _) rfl rfl ?_
 refine spL (t := 10) (b := false) rfl ?_
 refine gy rfl ?_
 refine mv (v := .int .i64 _) rfl rfl ?_
 refine gy rfl ?_
 refine mv (v := .pointer _) rfl rfl ?_
 refine gy rfl ?_
 refine nc rfl rfl ?_
 refine gy rfl ?_
 refine fa rfl fo76_0 rfl ?_
 refine gy rfl ?_
 refine ld H rfl sc30 rfl rfl ?_
 refine gy rfl ?_
 refine lnS rfl Tryz.underlying30 rfl ?_
 refine gy rfl ?_
 refine gtr rfl rfl rfl ?_
 refine pkF (v := .bool _) rfl rfl rfl ?_
 refine mv (v := .bool _) rfl rfl ?_
 refine spF (t := 19) rfl (by omega) ?_
 refine gy rfl ?_
 refine mv (v := .slice _ _ _) rfl rfl ?_
 refine gy rfl ?_
 refine lnS rfl Tryz.underlying30 rfl ?_
 refine gy rfl ?_
 refine mv (v := .pointer _) rfl rfl ?_
 refine gy rfl ?_
 refine nc rfl rfl ?_
 refine gy rfl ?_
 refine fa rfl fo76_0 rfl ?_
 refine gy rfl ?_
 refine ld H rfl sc30 rfl rfl ?_
 refine gy rfl ?_
 refine lnS rfl Tryz.underlying30 rfl ?_
 refine gy rfl ?_
 refine mv (v := .int .i64 _) rfl rfl ?_
 refine gy rfl ?_
 refine sub rfl rfl (by first | exact w_i64 (by omega) | exact w_i64 (rng_i64 _) | rfl) rfl ?_
 refine gy rfl ?_
 refine gtr rfl rfl rfl ?_
 refine pkF (v := .bool _) rfl rfl rfl ?_
 refine nl ?_
 refine then_n ?_
 refine cF rfl (by omega) ?_
 refine sk ?_
 refine then_n ?_
 refine sq ?_
 refine sq ?_
 refine rg ?_
 refine mv (v := .pointer _) rfl rfl ?_
 refine nc rfl rfl ?_
 refine fa rfl fo76_2 rfl ?_
 refine ld H rfl sc4 rfl rfl ?_
 refine nl ?_
 refine then_n ?_
 refine cbT rfl rfl ?_
 refine dr (by kernel_rfl) ?_
 have H := H.drew
 replace O := O.drew
 refine hold (fun w' => SH w S w' [⟨bm, .cells ([.slice (some ⟨bd, 0, none⟩) L c, x1, .bool true, .slice DS ns cs] : List Value).toArray 76 (0, 0), true⟩, ⟨bd, .cells (Bs (ds)).toArray T (c, f2), true⟩]) [13] ?_
 refine tk (i := 0) rfl (by kernel_rfl) rfl (H.subX) (fun w' H => r_mv (v := .pointer _) rfl) ?_
 refine tk (i := 1) rfl (by kernel_rfl) rfl (H.subX) (fun w' H => r_mv (v := .pointer _) rfl) ?_
 refine tk (i := 2) rfl (by kernel_rfl) rfl (H.subX) (fun w' H => r_nc rfl) ?_
 refine tk (i := 3) rfl (by kernel_rfl) rfl (H.subX) (fun w' H => r_fa rfl fo76_3) ?_
 refine tk (i := 4) rfl (by kernel_rfl) rfl (H.subX) (fun w' H => r_ld H rfl sc39 rfl) ?_
 refine tk (i := 5) rfl (by kernel_rfl) rfl (H.subX) (fun w' H => r_mv (v := .int .i64 _) rfl) ?_
 refine tk (i := 6) rfl (by kernel_rfl) rfl (H.subX) (fun w' H => r_mv (v := .slice _ _ _) rfl) ?_
 refine tk (i := 7) rfl (by kernel_rfl) rfl (H.subX) (fun w' H => r_cvBS rfl (by exact hR.now H.fr (by simpa using hqS)) Tryz.underlying30 Tryz.underlying5 Tryz.underlying9) ?_
 refine tkbu (out := ?o1) (i := 8) rfl (by kernel_rfl) rfl (H.subX) ze46 bo46 ?f1 ?_
 case f1 =>
  refine FL.one (v := .int .i64 _) rfl pl46_0 rfl (by first | decide | simp) ?_
  refine FL.one (v := .string _) rfl pl46_1 rfl (by first | decide | simp) ?_
  exact FL.nil
 refine fk (i := 9) (by kernel_rfl) rfl rfl rfl ?_
 refine bsl (sz := 3) (out := ?o2) H Tryz.underlying39 ze46 sz46_3 (by decide) ?f2 rfl ?_
 case f2 =>
  refine FS.agg (vs := _) rfl rfl (by first | decide | simp) ?_
  exact FS.nil
 intro b1 w1 hb1 H1 F; replace O := O.new F hb1 H1.look; clear H H1 F; have H := O.sh
 refine nl ?_
 refine then_n ?_
 refine ⟨H.subX, ?_⟩
 refine fk (i := 10) (by kernel_rfl) rfl rfl rfl ?_
 refine apO (zs := [.int .i64 0, .string ⟨#[]⟩, .bool false]) (St.cells ⟨(k : Int), xs, false⟩) O rfl rfl Tryz.underlying39 ri46 (by first | rfl | simp) (cells_look H.look) (List.all_eq_true.1 (St.cells_one _)) (by simp) (by omega) (by unfold maxLen; omega) rfl ?_
 clear O H; intro D9 cp9 w2 O
 replace O := O.drop; have H := O.sh
 refine nl ?_
 refine then_n ?_
 refine ⟨H.subX, ?_⟩
 refine fk (i := 11) (by kernel_rfl) rfl rfl rfl ?_
 refine nc rfl rfl ?_
 refine nl ?_
 refine then_n ?_
 refine ⟨H.subX, ?_⟩
 refine tk (i := 12) rfl (by kernel_rfl) rfl (H.subX) (fun w' H => r_fa rfl fo76_3) ?_
 refine fb (i := 13) (by kernel_rfl) rfl rfl rfl ?_
 refine st (v := .slice _ _ _) H rfl rfl sc39 rfl (by show 0 + 3 < 4; decide) (by omega) ?_
 intro w95 H1 F; replace O := O.put F H1.look; clear H H1 F; have H := O.sh
 refine nl ?_
 refine then_n ?_
 refine dn (by kernel_rfl) ?_
 refine then_n ?_
 refine sq ?_
 refine rg ?_
 refine mv (v := .pointer _) rfl rfl ?_
 refine nc rfl rfl ?_
 refine fa rfl fo76_0 rfl ?_
 refine ld H rfl sc30 rfl rfl ?_
 refine mv (v := .int .i64 _) rfl rfl ?_
 refine sllN (0 + k) (L - k) (c - k) rfl rfl Tryz.underlying30 sz5_1 (by omega) (by omega) rfl ?_
 refine mv (v := .slice _ _ _) rfl rfl ?_
 refine cpP (bs := xs) H rfl rfl Tryz.underlying30 sz5_1 (hR.now H.fr (by simpa using hqS)) (by omega) (by omega) (by omega) rfl ?_
 intro w3 H1 F1 hl1; replace O := O.put F1 (H1.look (b := bd)); clear H H1 F1; have H := O.sh
 refine asg (v := .int .i64 _) rfl rfl ?_
 refine asg (v := .nilIface) rfl rfl ?_
 refine nl ?_
 refine then_n ?_
 refine rt ?_
 refine fin_r ?_
 refine ⟨D9, cp9, rfl, ?_⟩
 rw [List.flatMap_append]
 rw [Nat.zero_add] at O
 simpa using O
set_option maxRecDepth 100000 in
set_option maxHeartbeats 4000000 in
theorem c_sync (w : World) (S : List Nat) (bm bd L c f2 : Nat) (x1 : Value) (T : TypeId) (ds : List UInt8) (DS : Option Addr) (ns cs : Nat) (sts : List St) (O0 : OR 46 3 w S w [⟨bm, .cells ([.slice (some ⟨bd, 0, none⟩) L c, x1, .bool true, .slice DS ns cs] : List Value).toArray 76 (0, 0), true⟩, ⟨bd, .cells (Bs (ds)).toArray T (c, f2), true⟩] DS (ns) cs ((sts : List St).flatMap St.cells)) (hL : L ≤ ds.length) (hLc : L ≤ c) (hc : L ≤ 1000000000) (hns : ns ≤ 100) : Calls Tryz.prog 124 #[.agg #[.pointer (some ⟨bm, 0, none⟩)]] w (Ret fun v w' => ∃ DS2 cs2, v = .nilIface ∧ OR 46 3 w S w' [⟨bm, .cells ([.slice (some ⟨bd, 0, none⟩) L c, x1, .bool true, .slice DS2 (ns + 1) cs2] : List Value).toArray 76 (0, 0), true⟩, ⟨bd, .cells (Bs (ds)).toArray T (c, f2), true⟩] DS2 ((ns + 1)) cs2 ((sts ++ [⟨0, [], true⟩] : List St).flatMap St.cells)) := by
 refine enter (fun ρ => ρ 2) Tryz.func124 rfl rfl rfl (res1 rfl) ?_
 have O := O0
 have H := O.sh
 refine sq ?_
 refine rg ?_
 refine bx (v := .agg _) H rfl rfl rfl ?_
 intro b1 w1 hb1 H1 F; replace O := O.new F hb1 H1.look; clear H H1 F; have H := O.sh
 refine asg (v := .nilIface) rfl rfl ?_
 refine nl ?_
 refine then_n ?_
 refine sq ?_
 refine dr (by kernel_rfl) ?_
 have H := H.drew
 replace O := O.drew
 refine hold (fun w' => SH w S w' [⟨b1, .cells ([.pointer (some ⟨bm, 0, none⟩)] : List Value).toArray 84 (0, 0), true⟩, ⟨bm, .cells ([.slice (some ⟨bd, 0, none⟩) L c, x1, .bool true, .slice DS ns cs] : List Value).toArray 76 (0, 0), true⟩, ⟨bd, .cells (Bs (ds)).toArray T (c, f2), true⟩]) [12] ?_
 refine tk (i := 0) rfl (by kernel_rfl) rfl (H.subX) (fun w' H => r_fa rfl fo84_0) ?_
 refine tk (i := 1) rfl (by kernel_rfl) rfl (H.subX) (fun w' H => r_ld H rfl sc67 rfl) ?_
 refine tk (i := 2) rfl (by kernel_rfl) rfl (H.subX) (fun w' H => r_fa rfl fo84_0) ?_
 refine tk (i := 3) rfl (by kernel_rfl) rfl (H.subX) (fun w' H => r_ld H rfl sc67 rfl) ?_
 refine tk (i := 4) rfl (by kernel_rfl) rfl (H.subX) (fun w' H => r_nc rfl) ?_
 refine tk (i := 5) rfl (by kernel_rfl) rfl (H.subX) (fun w' H => r_fa rfl fo76_3) ?_
 refine tk (i := 6) rfl (by kernel_rfl) rfl (H.subX) (fun w' H => r_ld H rfl sc39 rfl) ?_
 refine tkbu (out := ?o1) (i := 7) rfl (by kernel_rfl) rfl (H.subX) ze46 bo46 ?f1 ?_
 case f1 =>
  refine FL.one (v := .bool _) rfl pl46_2 rfl (by first | decide | simp) ?_
  exact FL.nil
 refine fk (i := 8) (by kernel_rfl) rfl rfl rfl ?_
 refine bsl (sz := 3) (out := ?o2) H Tryz.underlying39 ze46 sz46_3 (by decide) ?f2 rfl ?_
 case f2 =>
  refine FS.agg (vs := _) rfl rfl (by first | decide | simp) ?_
  exact FS.nil
 intro b2 w2 hb2 H1 F; replace O := O.new F hb2 H1.look; clear H H1 F; have H := O.sh
 refine nl ?_
 refine then_n ?_
 refine ⟨H.subX, ?_⟩
 refine fk (i := 9) (by kernel_rfl) rfl rfl rfl ?_
 refine apO (zs := [.int .i64 0, .string ⟨#[]⟩, .bool false]) (St.cells ⟨0, [], true⟩) O rfl rfl Tryz.underlying39 ri46 (by first | rfl | simp) (cells_look H.look) (List.all_eq_true.1 (St.cells_one _)) (by simp) (by omega) (by unfold maxLen; omega) rfl ?_
 clear O H; intro D9 cp9 w3 O
 replace O := O.drop; have H := O.sh
 refine nl ?_
 refine then_n ?_
 refine ⟨H.subX, ?_⟩
 refine fk (i := 10) (by kernel_rfl) rfl rfl rfl ?_
 refine nc rfl rfl ?_
 refine nl ?_
 refine then_n ?_
 refine ⟨H.subX, ?_⟩
 refine tk (i := 11) rfl (by kernel_rfl) rfl (H.subX) (fun w' H => r_fa rfl fo76_3) ?_
 refine fb (i := 12) (by kernel_rfl) rfl rfl rfl ?_
 refine st (v := .slice _ _ _) H rfl rfl sc39 rfl (by show 0 + 3 < 4; decide) (by omega) ?_
 intro w95 H1 F; replace O := O.put F H1.look; clear H H1 F; have H := O.sh
 refine nl ?_
 refine then_n ?_
 refine dn (by kernel_rfl) ?_
 refine then_n ?_
 refine sq ?_
 refine rg ?_
 refine asg (v := .nilIface) rfl rfl ?_
 refine nl ?_
 refine then_n ?_
 refine rt ?_
 refine fin_r ?_
 refine ⟨D9, cp9, rfl, ?_⟩
 rw [List.flatMap_append]
 exact O.subX
theorem taSync (v : Value) (w : World) : (Instr.typeAssert (.iface 84 v) 109 149 true).run Tryz.prog w = .ok (.tuple #[.iface 84 v, .bool true]) w := by kernel_rfl
theorem meW (a : Addr) (w : World) : (method (Tryz.prog.types.size + Made.depth) 84 (.agg #[.pointer (some a)]) "WriteAt").run Tryz.prog w = .ok (122, .pointer (some a)) w := by kernel_rfl
set_option maxRecDepth 100000 in
set_option maxHeartbeats 2000000 in
theorem c_syncW (w : World) (S : List Nat) (bm bd L c f2 : Nat) (x1 : Value) (T : TypeId) (ds : List UInt8) (DS : Option Addr) (ns cs : Nat) (sts : List St) (O0 : OR 46 3 w S w [⟨bm, .cells ([.slice (some ⟨bd, 0, none⟩) L c, x1, .bool true, .slice DS ns cs] : List Value).toArray 76 (0, 0), true⟩, ⟨bd, .cells (Bs (ds)).toArray T (c, f2), true⟩] DS (ns) cs ((sts : List St).flatMap St.cells)) (hL : L ≤ ds.length) (hLc : L ≤ c) (hc : L ≤ 1000000000) (hns : ns ≤ 100) : Calls Tryz.prog 56 #[.iface 84 (.agg #[.pointer (some ⟨bm, 0, none⟩)])] w (Ret fun v w' => ∃ DS2 cs2, v = .nilIface ∧ OR 46 3 w S w' [⟨bm, .cells ([.slice (some ⟨bd, 0, none⟩) L c, x1, .bool true, .slice DS2 (ns + 1) cs2] : List Value).toArray 76 (0, 0), true⟩, ⟨bd, .cells (Bs (ds)).toArray T (c, f2), true⟩] DS2 ((ns + 1)) cs2 ((sts ++ [⟨0, [], true⟩] : List St).flatMap St.cells)) := by
 refine enter (fun ρ => ρ 2) Tryz.func56 rfl rfl rfl (res1 rfl) ?_
 have H := O0.sh
 refine sq ?_
 refine rg ?_
 refine asg (v := .nilIface) rfl rfl ?_
 refine nl ?_
 refine then_n ?_
 refine sq ?_
 refine sq ?_
 refine rg ?_
 refine mv (v := .iface _ _) rfl rfl ?_
 refine taI (v := .iface 84 _) rfl (taSync _ _) rfl ?_
 refine mv (v := .tuple _) rfl rfl ?_
 refine xt rfl rfl rfl ?_
 refine xt rfl rfl rfl ?_
 refine asg (v := .iface _ _) rfl rfl ?_
 refine asg (v := .bool _) rfl rfl ?_
 refine nl ?_
 refine then_n ?_
 refine sq ?_
 refine rg ?_
 refine mv (v := .bool _) rfl rfl ?_
 refine nl ?_
 refine then_n ?_
 refine cbT rfl rfl ?_
 refine sq ?_
 refine rg ?_
 refine mv (v := .iface _ _) rfl rfl ?_
 refine mc rfl me84_Sync ca124 (c_sync _ S bm bd L c f2 x1 T ds DS ns cs sts O0 hL hLc hc hns) rfl ?_
 rintro _ w1 ⟨DS2, cs2, rfl, O⟩
 replace H := O.sh
 refine asg (v := .nilIface) rfl rfl ?_
 refine nl ?_
 refine then_n ?_
 refine rt ?_
 refine then_r ?_
 refine fin_r ?_
 exact ⟨_, _, rfl, O⟩
set_option maxRecDepth 100000 in
set_option maxHeartbeats 4000000 in
theorem c_write1 (w : World) (S : List Nat) (bm bd L c f2 : Nat) (x1 : Value) (T : TypeId) (ds : List UInt8) (DS : Option Addr) (ns cs : Nat) (sts : List St) (O0 : OR 46 3 w S w [⟨bm, .cells ([.slice (some ⟨bd, 0, none⟩) L c, x1, .bool true, .slice DS ns cs] : List Value).toArray 76 (0, 0), true⟩, ⟨bd, .cells (Bs (ds)).toArray T (c, f2), true⟩] DS (ns) cs ((sts : List St).flatMap St.cells)) (hL : L ≤ ds.length) (hLc : L ≤ c) (hc : L ≤ 1000000000) (hns : ns ≤ 90) (q o k n c2 : Nat) (xs : List UInt8) (hR : RB w (some ⟨q, o, none⟩) n xs) (hqS : q ∉ S) (hk : k + n ≤ L) (hn : 0 < n) (b4 : Nat) (wt : ByteArray) (h4 : w.cell? ⟨b4, 0, none⟩ = some (.iface 84 (.agg #[.pointer (some ⟨bm, 0, none⟩)]))) (h4S : b4 ∉ S) : Calls Tryz.prog 55 #[.slice (some ⟨q, o, none⟩) n c2, .int .i64 (k : Int), .string wt, .pointer (some ⟨b4, 0, none⟩)] w (Ret fun v w' => ∃ DS2 cs2, v = .nilIface ∧ OR 46 3 w S w' [⟨bm, .cells ([.slice (some ⟨bd, 0, none⟩) L c, x1, .bool true, .slice DS2 (ns + 2) cs2] : List Value).toArray 76 (0, 0), true⟩, ⟨bd, .cells (Bs (pAt ds k xs)).toArray T (c, f2), true⟩] DS2 ((ns + 2)) cs2 ((sts ++ [⟨(k : Int), xs, false⟩, ⟨0, [], true⟩] : List St).flatMap St.cells)) := by
 refine enter (fun ρ => ρ 7) Tryz.func55 rfl rfl rfl (res1 rfl) ?_
 have H := O0.sh
 have hRl := hR.1
 refine sq ?_
 refine rg ?_
 refine asg (v := .nilIface) rfl rfl ?_
 refine nl ?_
 refine then_n ?_
 refine sq ?_
 refine rg ?_
 refine lc (v := .iface _ _) rfl h4 sc109 rfl ?_
 refine mv (v := .slice _ _ _) rfl rfl ?_
 refine mv (v := .int .i64 _) rfl rfl ?_
 refine mc2 rfl (meW _) ca122 (c_writeAtK _ S bm bd L c f2 x1 T ds DS ns cs sts O0 hL hLc hc (by omega) q o k n c2 xs hR hqS hk hn) rfl ?_
 rintro _ w1 ⟨DS1, cs1, rfl, O⟩
 replace H := O.sh
 refine mv (v := .tuple _) rfl rfl ?_
 refine xt rfl rfl rfl ?_
 refine xt rfl rfl rfl ?_
 refine asg (v := .int .i64 _) rfl rfl ?_
 refine asg (v := .nilIface) rfl rfl ?_
 refine nl ?_
 refine then_n ?_
 refine sq ?_
 refine sq ?_
 refine rg ?_
 refine mv (v := .nilIface) rfl rfl ?_
 refine neqI0 rfl Tryz.underlying73 rfl ?_
 refine nl ?_
 refine then_n ?_
 refine cbF rfl rfl ?_
 refine sk ?_
 refine then_n ?_
 refine sq ?_
 refine sq ?_
 refine rg ?_
 refine mv (v := .int .i64 _) rfl rfl ?_
 refine mv (v := .slice _ _ _) rfl rfl ?_
 refine lnS rfl Tryz.underlying30 rfl ?_
 refine neq rfl rfl rfl ?_
 refine nl ?_
 refine then_n ?_
 refine cF rfl (by omega) ?_
 refine sk ?_
 refine then_n ?_
 refine sq ?_
 refine sq ?_
 refine rg ?_
 refine lc (v := .iface _ _) rfl (H.fr.cell h4 h4S) sc109 rfl ?_
 refine cl ca56 (c_syncW _ _ bm bd L c f2 x1 T (pAt ds k xs) DS1 (ns + 1) cs1 (sts ++ [⟨(k : Int), xs, false⟩]) (OR.base (A := []) O) (by rw [pAt_len (show k + xs.length ≤ ds.length by omega)]; exact hL) hLc hc (by omega)) rfl ?_
 rintro _ w2 ⟨DS2, cs2, rfl, K⟩
 replace O := OR.call (A := []) O (by simp) K (by simp)
 replace H := O.sh
 refine asg (v := .nilIface) rfl rfl ?_
 refine nl ?_
 refine then_n ?_
 refine sq ?_
 refine rg ?_
 refine mv (v := .nilIface) rfl rfl ?_
 refine neqI0 rfl Tryz.underlying73 rfl ?_
 refine nl ?_
 refine then_n ?_
 refine cbF rfl rfl ?_
 refine sk ?_
 refine then_n ?_
 refine sq ?_
 refine rg ?_
 refine asg (v := .nilIface) rfl rfl ?_
 refine nl ?_
 refine then_n ?_
 refine rt ?_
 refine fin_r ?_
 refine ⟨DS2, cs2, rfl, ?_⟩
 rw [List.append_assoc] at O
 exact O
end Go.Proofs.YthcaejaaalkglaaGreatDoor.X
/- What a call may read of its caller's heap; the disk behind a write. -/
namespace Go.Proofs.YthcaejaaalkglaaGreatDoor.X
set_option linter.unusedVariables false
open Go Go.RowKit
theorem SH.tabBase {w0 w1 : World} {S0 : List Nat} {A B : List Ent} {t : Nat} {o : Obj} {T : TypeId} {l : PL} (H : SH w0 S0 w1 (A ++ (⟨t, o, true⟩ :: (B ++ ents T l)))) : SH w1 (l.map Prod.fst) w1 (⟨t, o, false⟩ :: ents T l) := by
 have h1 := List.pairwise_cons.1 (List.pairwise_append.1 H.ap).2.1
 have h2 := (List.pairwise_append.1 h1.2).2.1
 refine SH.init _ _ (fun x hx => ?_) ?_ (fun x hx h => ?_)
 ·rcases List.mem_cons.1 hx with rfl | hx
  ·exact H.get ⟨t, o, true⟩ (List.mem_append.2 (.inr (.head _)))
  ·exact H.get x (List.mem_append.2 (.inr (.tail _ (List.mem_append.2 (.inr hx)))))
 ·exact List.Pairwise.cons (fun y hy _ => h1.1 y (List.mem_append.2 (.inr hy)) (by simp)) h2
 ·rcases List.mem_cons.1 hx with rfl | hx
  ·cases h
  ·exact ents_b hx
theorem perm_tail (X M E : List Ent) : (X ++ (M ++ E)).Perm ((X ++ E) ++ M) := by
 rw [List.append_assoc]; exact List.Perm.append_left X List.perm_append_comm
theorem OR.apart {e : TypeId} {sz : Nat} {w0 w1 : World} {S0 : List Nat} {A M : List Ent} {D : Option Addr} {n cap : Nat} {xs : List Value} (O : OR e sz w0 S0 w1 (A ++ M) D n cap xs) (hM : ∀ y ∈ M, y.m = true) {x : Ent} (hx : x ∈ A) : x.b ∉ SD M D := by
 intro h
 rcases List.mem_append.1 h with h | h
 ·obtain ⟨y, hy, e1⟩ := List.mem_map.1 h
  exact (List.pairwise_append.1 O.sh.ap).2.2 x hx y hy (by simp [hM y hy]) e1.symm
 ·rcases O.own with ⟨rfl, _⟩ | ⟨b, cur, rfl, _, _, _, _, h6⟩
  ·simp [blkOf] at h
  ·simp [blkOf] at h
   exact (List.pairwise_cons.1 h6.ap).1 x (List.mem_append.2 (.inl hx)) (by simp) h.symm
theorem RB.heap {w : World} {q : Nat} {bs : List UInt8} {T : TypeId} {fr : Nat × Nat} (h : w.heap[q]? = some (.cells (Bs bs).toArray T fr)) {n : Nat} (hn : bs.length = n) : RB w (some ⟨q, 0, none⟩) n bs :=
 RB.allm (b := q) (SH.ro1 h) hn
theorem RB.heapAt {w : World} {q : Nat} {bs : List UInt8} {T : TypeId} {fr : Nat × Nat} (h : w.heap[q]? = some (.cells (Bs bs).toArray T fr)) {o n : Nat} (hn : o + n ≤ bs.length) : RB w (some ⟨q, o, none⟩) n (pcs bs o n) :=
 RB.of (b := q) (o := o) (n := n) (SH.ro1 h) hn
theorem arrB_up (ps : List GP) : arrB (ps.map upG) = arrB ps := by
 unfold arrB
 rw [List.foldl_map]
 congr 1
 funext a p
 unfold arrP
 rw [upG_entB]; rfl
theorem up_up (ps : List GP) : (ps.map upG).map upG = ps.map upG := by
 rw [List.map_map]; congr 1; funext p; exact upG_upG p
theorem up_goodL {n : Nat} {ps : List GP} (h : goodL n ps) : goodL n (ps.map upG) := by
 refine ⟨fun q hq => ?_, ?_⟩
 ·obtain ⟨p, hp, rfl⟩ := List.mem_map.1 hq
  exact upG_good (h.1 p hp)
 ·rw [List.pairwise_map]; exact h.2
theorem up_ok {ps : List GP} (h : ∀ p ∈ ps, p.ok) : ∀ p ∈ ps.map upG, p.ok := fun q hq => by
 obtain ⟨p, hp, rfl⟩ := List.mem_map.1 hq
 exact ⟨(h p hp).ix, (h p hp).st, (h p hp).en, (h p hp).sz, (h p hp).att⟩
theorem up_fit {ps : List GP} (h : ∀ p ∈ ps, p.fit) : ∀ p ∈ ps.map upG, p.fit := fun q hq => by
 obtain ⟨p, hp, rfl⟩ := List.mem_map.1 hq
 exact ⟨(h p hp).ty, (h p hp).nm, by
  have : (upG p).gu.length = 36 := gT_len (gB_len _)
  omega⟩
theorem row_same {w w' : World} {l l2 : PL} {D : Option Addr} (hb : l2.map Prod.fst = l.map Prod.fst) (h : ∀ (j : Nat) (x : Nat × List Value), l[j]? = some x → ∃ ad, D = some ad ∧ w.cell? (ad.add j) = some (.pointer (some ⟨x.1, 0, none⟩))) (S : List Nat) (F : Fr S w w') (hD : ∀ ad, D = some ad → ad.block ∉ S) : ∀ (j : Nat) (x : Nat × List Value), l2[j]? = some x → ∃ ad, D = some ad ∧ w'.cell? (ad.add j) = some (.pointer (some ⟨x.1, 0, none⟩)) := by
 intro j x hx
 have e := congrArg (fun m => m[j]?) hb
 simp only [List.getElem?_map, hx, Option.map_some] at e
 cases hy : l[j]? with
 | none => rw [hy] at e; simp at e
 | some y =>
  rw [hy] at e
  simp at e
  obtain ⟨ad, h1, h2⟩ := h j y hy
  exact ⟨ad, h1, by rw [e]; exact F.cell h2 (by rw [add_block]; exact hD ad h1)⟩
theorem len_same {l l2 : PL} {m : Nat} (hb : l2.map Prod.fst = l.map Prod.fst) (h : l.length = m) : l2.length = m := by
 have := congrArg List.length hb
 simp at this; omega
def protT (n : Nat) : List UInt8 := pcs (genP ((n : Int) - 1)) 446 66
def wr1 (ds : List UInt8) (n : Nat) : List UInt8 := pAt ds 446 (protT n)
def wr2 (ds : List UInt8) (n : Nat) (ps : List GP) : List UInt8 := pAt (wr1 ds n) ((n - 33) * 512) (arrB ps)
def wr3 (ds : List UInt8) (n : Nat) (g : List UInt8) (ps : List GP) : List UInt8 := pAt (wr2 ds n ps) ((n - 1) * 512) (encHdr2 n g ps)
def wr4 (ds : List UInt8) (n : Nat) (g : List UInt8) (ps : List GP) : List UInt8 := pAt (wr3 ds n g ps) 1024 (arrB ps)
def wrB (ds : List UInt8) (n : Nat) (g : List UInt8) (ps : List GP) : List UInt8 := pAt (wr4 ds n g ps) 512 (encHdr n g ps)
def stsW (n : Nat) (g : List UInt8) (ps : List GP) : List St := [⟨446, protT n, false⟩, ⟨0, [], true⟩, ⟨(((n - 33) * 512 : Nat) : Int), arrB ps, false⟩, ⟨0, [], true⟩, ⟨(((n - 1) * 512 : Nat) : Int), encHdr2 n g ps, false⟩, ⟨0, [], true⟩, ⟨1024, arrB ps, false⟩, ⟨0, [], true⟩, ⟨512, encHdr n g ps, false⟩, ⟨0, [], true⟩]
theorem protT_len (n : Nat) : (protT n).length = 66 := pcs_len (by rw [genP_len]; decide)
end Go.Proofs.YthcaejaaalkglaaGreatDoor.X
/- Walks of functions, printed by a program of this claim. -/
namespace Go.Proofs.YthcaejaaalkglaaGreatDoor.X
set_option linter.unusedVariables false
set_option linter.unusedSimpArgs false
open Go Go.RowKit
namespace PF
theorem ca51 : callable Tryz.prog 51 = true := by kernel_rfl
theorem ca52 : callable Tryz.prog 52 = true := by kernel_rfl
theorem ca55 : callable Tryz.prog 55 = true := by kernel_rfl
theorem ca57 : callable Tryz.prog 57 = true := by kernel_rfl
end PF
open PF
set_option maxRecDepth 100000 in
set_option maxHeartbeats 16000000 in
theorem c_write (w : World) (S : List Nat) (t bm bd c f2 : Nat) (x1 : Value) (T : TypeId) (ds : List UInt8) (D : Option Addr) (m cap : Nat) (g : List UInt8) (rb : Bool) (n : Nat) (hn : 80 ≤ n ∧ n ≤ 1000000) (l : PL) (ps : List GP) (y1 y2 : Value) (hs0 : l.map Prod.snd = ps.map (pcY y1 y2)) (hlen : l.length = m) (hrow : ∀ j x, l[j]? = some x → ∃ ad, D = some ad ∧ w.cell? (ad.add j) = some (.pointer (some ⟨x.1, 0, none⟩))) (hDn : ∀ ad, D = some ad → ad.block ∉ S) (hDl0 : ∀ ad, D = some ad → ad.block ∉ l.map Prod.fst) (hg0 : goodL n ps) (hok0 : ∀ p ∈ ps, p.ok) (hft0 : ∀ p ∈ ps, p.fit) (hm : m ≤ 200) (hgu : gOk g = true) (hL0 : n * 512 ≤ ds.length) (hLc : n * 512 ≤ c) (H0 : SH w S w (⟨t, .cells (tbZ D m cap g true rb).toArray 106 (0, 0), true⟩ :: ⟨bm, .cells ([.slice (some ⟨bd, 0, none⟩) (n * 512) c, x1, .bool true, .slice none 0 0] : List Value).toArray 76 (0, 0), true⟩ :: ⟨bd, .cells (Bs (ds)).toArray T (c, f2), true⟩ :: ents 126 l)) : Calls Tryz.prog 33 #[.pointer (some ⟨t, 0, none⟩), .iface 84 (.agg #[.pointer (some ⟨bm, 0, none⟩)]), .int .i64 ((n : Int) * 512)] w (Ret fun v w' => ∃ DS2 cs2, v = .nilIface ∧ OR 46 3 w S w' [⟨bm, .cells ([.slice (some ⟨bd, 0, none⟩) (n * 512) c, x1, .bool true, .slice DS2 10 cs2] : List Value).toArray 76 (0, 0), true⟩, ⟨bd, .cells (Bs (wrB ds n g ps)).toArray T (c, f2), true⟩] DS2 (10) cs2 ((stsW n g ps : List St).flatMap St.cells)) := by
 refine enter (fun ρ => ρ 6) Tryz.func33 rfl rfl rfl (res1 rfl) ?_
 have H := H0
 have hg1 := up_goodL hg0
 have hg2 := hg1
 have hok1 := up_ok hok0
 have hok2 := hok1
 have hft1 := up_fit hft0
 have hft2 := hft1
 have hb0 : l.map Prod.fst = l.map Prod.fst := rfl
 have hfs : ∀ p ∈ ps, p.fits := fun p hp => (hg0.1 p hp).fits
 have hal := arrB_len hfs
 have hgl := gB_len g
 have hh1 : (encHdr n g ps).length = 512 := hdrB_len hgl
 have hh2 : (encHdr2 n g ps).length = 512 := hdrB_len hgl
 have hpt := protT_len n
 have e1 : (wr1 ds n).length = ds.length := pAt_len (by omega)
 have hL1 : n * 512 ≤ (wr1 ds n).length := by omega
 have e2 : (wr2 ds n ps).length = ds.length := by rw [← e1]; exact pAt_len (by omega)
 have hL2 : n * 512 ≤ (wr2 ds n ps).length := by omega
 have e3 : (wr3 ds n g ps).length = ds.length := by rw [← e2]; exact pAt_len (by omega)
 have hL3 : n * 512 ≤ (wr3 ds n g ps).length := by omega
 have e4 : (wr4 ds n g ps).length = ds.length := by rw [← e3]; exact pAt_len (by omega)
 have hL4 : n * 512 ≤ (wr4 ds n g ps).length := by omega
 refine sq ?_
 refine rg ?_
 refine bx (v := .iface _ _) H rfl rfl rfl ?_
 clear H; intro b1 w1 hb1 H _
 refine asg (v := .nilIface) rfl rfl ?_
 refine nl ?_
 refine then_n ?_
 refine sq ?_
 refine sq ?_
 refine rg ?_
 refine mv (v := .pointer _) rfl rfl ?_
 refine nc rfl rfl ?_
 refine fa rfl fo106_14 rfl ?_
 refine ld H rfl sc4 rfl rfl ?_
 refine unot rfl rfl ?_
 refine nl ?_
 refine then_n ?_
 refine cbT rfl rfl ?_
 refine rg ?_
 refine mv (v := .pointer _) rfl rfl ?_
 refine mv (v := .int .i64 _) rfl rfl ?_
 refine cl ca51 (c_initTable _ t D m cap g true rb n hn (gu_ne hgu) (H.look (b := t))) rfl ?_
 rintro _ w1 ⟨rfl, F, hnew⟩
 replace H := H.put (b := t) F hnew; clear F hnew
 refine nl ?_
 refine then_n ?_
 refine sq ?_
 refine rg ?_
 refine mv (v := .pointer _) rfl rfl ?_
 refine cl ca52 (c_toGptT _ t D m cap g true rb 0 0 n hn l ps y1 y2 hs0 (len_same hb0 hlen) (row_same hb0 hrow S H.fr hDn) hDl0 hg0 hok0 hft0 hm hgu (SH.tabBase (A := [_]) (B := [_, _]) H)) rfl ?_
 rintro _ w2 ⟨q1, l1, rfl, hbx, hsx, K⟩
 have H9 := SH.joinE (A := [_, _, _, _]) (Y := [_]) H K hbx (by simp)
 have H : SH w S w2 (_ :: _ :: _ :: _ :: _ ::  ents 126 l1) := H9
 clear H9
 have hb1 : l1.map Prod.fst = l.map Prod.fst := hbx.trans hb0
 have hs1 : l1.map Prod.snd = (ps.map upG).map (pcY y1 y2) := hsx
 have hDl1 : ∀ ad, D = some ad → ad.block ∉ l1.map Prod.fst := fun ad e => by rw [hb1]; exact hDl0 ad e
 clear hbx hsx K
 refine mv (v := .tuple _) rfl rfl ?_
 refine xt rfl rfl rfl ?_
 refine xt rfl rfl rfl ?_
 refine asg (v := .slice _ _ _) rfl rfl ?_
 refine asg (v := .nilIface) rfl rfl ?_
 refine nl ?_
 refine then_n ?_
 refine sq ?_
 refine sq ?_
 refine rg ?_
 refine mv (v := .nilIface) rfl rfl ?_
 refine neqI0 rfl Tryz.underlying73 rfl ?_
 refine nl ?_
 refine then_n ?_
 refine cbF rfl rfl ?_
 refine sk ?_
 refine then_n ?_
 refine sq ?_
 refine rg ?_
 refine mv (v := .pointer _) rfl rfl ?_
 refine cl ca52 (c_toGptF _ t D m cap g true rb 0 0 n hn l1 (ps.map upG) y1 y2 hs1 (len_same hb1 hlen) (row_same hb1 hrow S H.fr hDn) hDl1 hg1 hok1 hft1 hm hgu (SH.tabBase (A := [_, _]) (B := [_, _]) H)) rfl ?_
 rintro _ w3 ⟨q2, l2, rfl, hbx, hsx, K⟩
 have H9 := SH.joinE (A := [_, _, _, _, _]) (Y := [_]) H K hbx (by simp)
 have H : SH w S w3 (_ :: _ :: _ :: _ :: _ :: _ ::  ents 126 l2) := H9
 clear H9
 have hb2 : l2.map Prod.fst = l.map Prod.fst := hbx.trans hb1
 rw [up_up] at hsx
 have hs2 : l2.map Prod.snd = (ps.map upG).map (pcY y1 y2) := hsx
 rw [arrB_up] at H
 have hDl2 : ∀ ad, D = some ad → ad.block ∉ l2.map Prod.fst := fun ad e => by rw [hb2]; exact hDl0 ad e
 clear hbx hsx K
 refine mv (v := .tuple _) rfl rfl ?_
 refine xt rfl rfl rfl ?_
 refine xt rfl rfl rfl ?_
 refine asg (v := .slice _ _ _) rfl rfl ?_
 refine asg (v := .nilIface) rfl rfl ?_
 refine nl ?_
 refine then_n ?_
 refine sq ?_
 refine sq ?_
 refine rg ?_
 refine mv (v := .nilIface) rfl rfl ?_
 refine neqI0 rfl Tryz.underlying73 rfl ?_
 refine nl ?_
 refine then_n ?_
 refine cbF rfl rfl ?_
 refine sk ?_
 refine then_n ?_
 refine sq ?_
 refine rg ?_
 refine mv (v := .pointer _) rfl rfl ?_
 refine cl ca53 (c_partArr _ t D m cap g true rb true 0 0 1 ((n : Int) - 1) 34 ((n : Int) - 34) l2 (ps.map upG) y1 y2 hs2 (len_same hb2 hlen) (row_same hb2 hrow S H.fr hDn) hDl2 n hg2 hn hok2 hft2 hm (SH.tabBase (A := [_, _, _]) (B := [_, _]) H)) rfl ?_
 rintro _ w4 ⟨q3, l3, rfl, hbx, hsx, K⟩
 have H9 := SH.joinE (A := [_, _, _, _, _, _]) (Y := [_]) H K hbx (by simp)
 have H : SH w S w4 (_ :: _ :: _ :: _ :: _ :: _ :: _ ::  ents 126 l3) := H9
 clear H9
 have hb3 : l3.map Prod.fst = l.map Prod.fst := hbx.trans hb2
 rw [up_up] at hsx
 have hs3 : l3.map Prod.snd = (ps.map upG).map (pcY y1 y2) := hsx
 rw [arrB_up] at H
 have hDl3 : ∀ ad, D = some ad → ad.block ∉ l3.map Prod.fst := fun ad e => by rw [hb3]; exact hDl0 ad e
 clear hbx hsx K
 refine mv (v := .tuple _) rfl rfl ?_
 refine xt rfl rfl rfl ?_
 refine xt rfl rfl rfl ?_
 refine asg (v := .slice _ _ _) rfl rfl ?_
 refine asg (v := .nilIface) rfl rfl ?_
 refine nl ?_
 refine then_n ?_
 refine sq ?_
 refine sq ?_
 refine rg ?_
 refine mv (v := .nilIface) rfl rfl ?_
 refine neqI0 rfl Tryz.underlying73 rfl ?_
 refine nl ?_
 refine then_n ?_
 refine cbF rfl rfl ?_
 refine sk ?_
 refine then_n ?_
 refine sq ?_
 refine rg ?_
 refine mv (v := .pointer _) rfl rfl ?_
 refine nc rfl rfl ?_
 refine fa rfl fo106_1 rfl ?_
 refine ld H rfl sc3 rfl rfl ?_
 refine asg (v := .int .i64 _) rfl rfl ?_
 refine nl ?_
 refine then_n ?_
 refine sq ?_
 refine rg ?_
 refine mv (v := .int .i64 _) rfl rfl ?_
 refine mv (v := .pointer _) rfl rfl ?_
 refine cl ca54 (c_pas _ t _ _ _ _ _ _ _ _ n hn true (H.look (b := t))) rfl ?_
 rintro _ w5 ⟨rfl, F⟩
 replace H := H.keep F; clear F
 refine cvi rfl rfl Tryz.underlying2 (by first | exact w_i64 (by omega) | exact w_i64 (rng_i64 _) | rfl) rfl ?_
 refine mul (c := 1024) rfl rfl rfl rfl ?_
 refine asg (v := .int .i64 _) rfl rfl ?_
 refine nl ?_
 refine then_n ?_
 refine sq ?_
 refine rg ?_
 refine mv (v := .int .i64 _) rfl rfl ?_
 refine mv (v := .pointer _) rfl rfl ?_
 refine cl ca54 (c_pas _ t _ _ _ _ _ _ _ _ n hn false (H.look (b := t))) rfl ?_
 rintro _ w6 ⟨rfl, F⟩
 replace H := H.keep F; clear F
 refine cvi rfl rfl Tryz.underlying2 (by first | exact w_i64 (by omega) | exact w_i64 (rng_i64 _) | rfl) rfl ?_
 refine mul (c := (((n - 33) * 512 : Nat) : Int)) rfl rfl (by show IntKind.i64.wrap (512 * ((n : Int) - 33)) = _; rw [w_i64 (by omega)]; omega) rfl ?_
 refine asg (v := .int .i64 _) rfl rfl ?_
 refine nl ?_
 refine then_n ?_
 refine sq ?_
 refine rg ?_
 refine mv (v := .int .i64 _) rfl rfl ?_
 refine asg (v := .int .i64 _) rfl rfl ?_
 refine nl ?_
 refine then_n ?_
 refine sq ?_
 refine rg ?_
 refine mv (v := .pointer _) rfl rfl ?_
 refine nc rfl rfl ?_
 refine fa rfl fo106_11 rfl ?_
 refine ld H rfl sc28 rfl rfl ?_
 refine cvi rfl rfl Tryz.underlying2 (by first | exact w_i64 (by omega) | exact w_i64 (rng_i64 _) | rfl) rfl ?_
 refine mv (v := .int .i64 _) rfl rfl ?_
 refine mul (c := (((n - 1) * 512 : Nat) : Int)) rfl rfl (by rw [w_i64 (by omega)]; omega) rfl ?_
 refine asg (v := .int .i64 _) rfl rfl ?_
 refine nl ?_
 refine then_n ?_
 refine sq ?_
 refine rg ?_
 refine mkf [.pointer _] rfl rfl ?_
 refine asg (v := .func _ _ _) rfl rfl ?_
 refine nl ?_
 refine then_n ?_
 refine sq ?_
 refine sq ?_
 refine rg ?_
 refine mv (v := .pointer _) rfl rfl ?_
 refine nc rfl rfl ?_
 refine fa rfl fo106_4 rfl ?_
 refine ld H rfl sc4 rfl rfl ?_
 refine nl ?_
 refine then_n ?_
 refine cbT rfl rfl ?_
 refine sq ?_
 refine rg ?_
 refine mv (v := .pointer _) rfl rfl ?_
 refine cl ca57 (c_genProt _ t _ _ _ _ _ _ _ _ n hn (H.look (b := t))) rfl ?_
 rintro _ w7 ⟨bp, rfl, hbp, hop, F⟩
 replace H := H.new F hbp hop; clear F hop
 refine asg (v := .slice _ _ _) rfl rfl ?_
 refine nl ?_
 refine then_n ?_
 refine sq ?_
 refine rg ?_
 refine mv (v := .slice _ _ _) rfl rfl ?_
 refine sllN (446) (66) (66) rfl rfl Tryz.underlying30 sz5_1 (by omega) (by omega) rfl ?_
 refine asg (v := .slice _ _ _) rfl rfl ?_
 refine nl ?_
 refine then_n ?_
 refine sq ?_
 refine rg ?_
 have O := OR.nil (e := 46) (sz := 3) (H.perm (perm_tail [_, _, _, _, _, _] [_, _] _))
 refine mv (v := .func _ _ _) rfl rfl ?_
 refine mv (v := .slice _ _ _) rfl rfl ?_
 refine cld rfl ca55 (c_write1 _ (SD [_, _] none) bm bd (n * 512) c f2 x1 T (ds) none 0 0 ((stsW n g ps).take 0) (OR.base O) hL0 hLc (by omega) (by decide) bp 446 446 66 _ (protT n) (RB.heapAt (O.sh.get ⟨bp, _, true⟩ (List.mem_append.2 (.inl (List.mem_append.2 (.inl (by repeat (first | exact .head _ | apply List.Mem.tail))))))) (by rw [genP_len]; decide)) (O.apart (by simp) (List.mem_append.2 (.inl (by repeat (first | exact .head _ | apply List.Mem.tail)))) (x := ⟨bp, _, true⟩)) (by omega) (by omega) b1 _ (cell_at (O.sh.get ⟨b1, _, true⟩ (List.mem_append.2 (.inl (List.mem_append.2 (.inl (by repeat (first | exact .head _ | apply List.Mem.tail)))))))) (O.apart (by simp) (List.mem_append.2 (.inl (by repeat (first | exact .head _ | apply List.Mem.tail)))) (x := ⟨b1, _, true⟩))) rfl ?_
 rintro _ w8 ⟨DS1, cs1, rfl, K⟩
 replace O := OR.call O (by simp) K (by simp)
 replace H := O.sh; clear K
 refine asg (v := .nilIface) rfl rfl ?_
 refine nl ?_
 refine then_n ?_
 refine sq ?_
 refine rg ?_
 refine mv (v := .nilIface) rfl rfl ?_
 refine neqI0 rfl Tryz.underlying73 rfl ?_
 refine nl ?_
 refine then_n ?_
 refine cbF rfl rfl ?_
 refine sk ?_
 refine then_n ?_
 refine sq ?_
 refine sq ?_
 refine rg ?_
 refine mv (v := .func _ _ _) rfl rfl ?_
 refine mv (v := .slice _ _ _) rfl rfl ?_
 refine mv (v := .int .i64 _) rfl rfl ?_
 refine cld rfl ca55 (c_write1 _ (SD [_, _] DS1) bm bd (n * 512) c f2 x1 T (wr1 ds n) DS1 2 cs1 ((stsW n g ps).take 2) (OR.base O) hL1 hLc (by omega) (by decide) q3 0 ((n - 33) * 512) 16384 _ (arrB ps) (RB.heap (O.sh.get ⟨q3, _, true⟩ (List.mem_append.2 (.inl (List.mem_append.2 (.inl (by repeat (first | exact .head _ | apply List.Mem.tail))))))) hal) (O.apart (by simp) (List.mem_append.2 (.inl (by repeat (first | exact .head _ | apply List.Mem.tail)))) (x := ⟨q3, _, true⟩)) (by omega) (by omega) b1 _ (cell_at (O.sh.get ⟨b1, _, true⟩ (List.mem_append.2 (.inl (List.mem_append.2 (.inl (by repeat (first | exact .head _ | apply List.Mem.tail)))))))) (O.apart (by simp) (List.mem_append.2 (.inl (by repeat (first | exact .head _ | apply List.Mem.tail)))) (x := ⟨b1, _, true⟩))) rfl ?_
 rintro _ w9 ⟨DS2, cs2, rfl, K⟩
 replace O := OR.call O (by simp) K (by simp)
 replace H := O.sh; clear K
 refine asg (v := .nilIface) rfl rfl ?_
 refine nl ?_
 refine then_n ?_
 refine sq ?_
 refine rg ?_
 refine mv (v := .nilIface) rfl rfl ?_
 refine neqI0 rfl Tryz.underlying73 rfl ?_
 refine nl ?_
 refine then_n ?_
 refine cbF rfl rfl ?_
 refine sk ?_
 refine then_n ?_
 refine sq ?_
 refine sq ?_
 refine rg ?_
 refine mv (v := .func _ _ _) rfl rfl ?_
 refine mv (v := .slice _ _ _) rfl rfl ?_
 refine mv (v := .int .i64 _) rfl rfl ?_
 refine cld rfl ca55 (c_write1 _ (SD [_, _] DS2) bm bd (n * 512) c f2 x1 T (wr2 ds n ps) DS2 4 cs2 ((stsW n g ps).take 4) (OR.base O) hL2 hLc (by omega) (by decide) q2 0 ((n - 1) * 512) 512 _ (encHdr2 n g ps) (RB.heap (O.sh.get ⟨q2, _, true⟩ (List.mem_append.2 (.inl (List.mem_append.2 (.inl (by repeat (first | exact .head _ | apply List.Mem.tail))))))) hh2) (O.apart (by simp) (List.mem_append.2 (.inl (by repeat (first | exact .head _ | apply List.Mem.tail)))) (x := ⟨q2, _, true⟩)) (by omega) (by omega) b1 _ (cell_at (O.sh.get ⟨b1, _, true⟩ (List.mem_append.2 (.inl (List.mem_append.2 (.inl (by repeat (first | exact .head _ | apply List.Mem.tail)))))))) (O.apart (by simp) (List.mem_append.2 (.inl (by repeat (first | exact .head _ | apply List.Mem.tail)))) (x := ⟨b1, _, true⟩))) rfl ?_
 rintro _ w10 ⟨DS3, cs3, rfl, K⟩
 replace O := OR.call O (by simp) K (by simp)
 replace H := O.sh; clear K
 refine asg (v := .nilIface) rfl rfl ?_
 refine nl ?_
 refine then_n ?_
 refine sq ?_
 refine rg ?_
 refine mv (v := .nilIface) rfl rfl ?_
 refine neqI0 rfl Tryz.underlying73 rfl ?_
 refine nl ?_
 refine then_n ?_
 refine cbF rfl rfl ?_
 refine sk ?_
 refine then_n ?_
 refine sq ?_
 refine sq ?_
 refine rg ?_
 refine mv (v := .func _ _ _) rfl rfl ?_
 refine mv (v := .slice _ _ _) rfl rfl ?_
 refine mv (v := .int .i64 _) rfl rfl ?_
 refine cld rfl ca55 (c_write1 _ (SD [_, _] DS3) bm bd (n * 512) c f2 x1 T (wr3 ds n g ps) DS3 6 cs3 ((stsW n g ps).take 6) (OR.base O) hL3 hLc (by omega) (by decide) q3 0 1024 16384 _ (arrB ps) (RB.heap (O.sh.get ⟨q3, _, true⟩ (List.mem_append.2 (.inl (List.mem_append.2 (.inl (by repeat (first | exact .head _ | apply List.Mem.tail))))))) hal) (O.apart (by simp) (List.mem_append.2 (.inl (by repeat (first | exact .head _ | apply List.Mem.tail)))) (x := ⟨q3, _, true⟩)) (by omega) (by omega) b1 _ (cell_at (O.sh.get ⟨b1, _, true⟩ (List.mem_append.2 (.inl (List.mem_append.2 (.inl (by repeat (first | exact .head _ | apply List.Mem.tail)))))))) (O.apart (by simp) (List.mem_append.2 (.inl (by repeat (first | exact .head _ | apply List.Mem.tail)))) (x := ⟨b1, _, true⟩))) rfl ?_
 rintro _ w11 ⟨DS4, cs4, rfl, K⟩
 replace O := OR.call O (by simp) K (by simp)
 replace H := O.sh; clear K
 refine asg (v := .nilIface) rfl rfl ?_
 refine nl ?_
 refine then_n ?_
 refine sq ?_
 refine rg ?_
 refine mv (v := .nilIface) rfl rfl ?_
 refine neqI0 rfl Tryz.underlying73 rfl ?_
 refine nl ?_
 refine then_n ?_
 refine cbF rfl rfl ?_
 refine sk ?_
 refine then_n ?_
 refine sq ?_
 refine sq ?_
 refine rg ?_
 refine mv (v := .func _ _ _) rfl rfl ?_
 refine mv (v := .slice _ _ _) rfl rfl ?_
 refine mv (v := .int .i64 _) rfl rfl ?_
 refine cld rfl ca55 (c_write1 _ (SD [_, _] DS4) bm bd (n * 512) c f2 x1 T (wr4 ds n g ps) DS4 8 cs4 ((stsW n g ps).take 8) (OR.base O) hL4 hLc (by omega) (by decide) q1 0 512 512 _ (encHdr n g ps) (RB.heap (O.sh.get ⟨q1, _, true⟩ (List.mem_append.2 (.inl (List.mem_append.2 (.inl (by repeat (first | exact .head _ | apply List.Mem.tail))))))) hh1) (O.apart (by simp) (List.mem_append.2 (.inl (by repeat (first | exact .head _ | apply List.Mem.tail)))) (x := ⟨q1, _, true⟩)) (by omega) (by omega) b1 _ (cell_at (O.sh.get ⟨b1, _, true⟩ (List.mem_append.2 (.inl (List.mem_append.2 (.inl (by repeat (first | exact .head _ | apply List.Mem.tail)))))))) (O.apart (by simp) (List.mem_append.2 (.inl (by repeat (first | exact .head _ | apply List.Mem.tail)))) (x := ⟨b1, _, true⟩))) rfl ?_
 rintro _ w12 ⟨DS5, cs5, rfl, K⟩
 replace O := OR.call O (by simp) K (by simp)
 replace H := O.sh; clear K
 refine asg (v := .nilIface) rfl rfl ?_
 refine nl ?_
 refine then_n ?_
 refine sq ?_
 refine rg ?_
 refine mv (v := .nilIface) rfl rfl ?_
 refine neqI0 rfl Tryz.underlying73 rfl ?_
 refine nl ?_
 refine then_n ?_
 refine cbF rfl rfl ?_
 refine sk ?_
 refine then_n ?_
 refine sq ?_
 refine rg ?_
 refine asg (v := .nilIface) rfl rfl ?_
 refine nl ?_
 refine then_n ?_
 refine rt ?_
 refine fin_r ?_
 exact ⟨DS5, cs5, rfl, O.sub (List.sublist_append_right _ _)⟩
end Go.Proofs.YthcaejaaalkglaaGreatDoor.X
/- A table that has been written stands on the disk. -/
namespace Go.Proofs.YthcaejaaalkglaaGreatDoor.X
set_option linter.unusedVariables false
set_option linter.unusedSimpArgs false
set_option maxRecDepth 100000
open Go Go.RowKit
theorem prot_of2 {bs : List UInt8} {n : Nat} (hn : 1 ≤ n ∧ n ≤ 1000000) (h : pcs bs 446 66 = [0, 0, 0, 0, 238, 0, 0, 0, 1, 0, 0, 0] ++ (leB 4 ((n : Int) - 1) ++ (List.replicate 48 0 ++ [85, 170]))) : protB bs ((n : Int) - 1) = true := by
  have P : ∀ p k, p + k ≤ 66 → pcs bs (446 + p) k = pcs ([0, 0, 0, 0, 238, 0, 0, 0, 1, 0, 0, 0] ++ (leB 4 ((n : Int) - 1) ++ (List.replicate 48 0 ++ [85, 170]))) p k := fun p k hk => by rw [← h, pcsA hk]
  have G : ∀ p, p < 66 → bs.getD (446 + p) 0 = ([0, 0, 0, 0, 238, 0, 0, 0, 1, 0, 0, 0] ++ (leB 4 ((n : Int) - 1) ++ (List.replicate 48 0 ++ [85, 170]))).getD p 0 := fun p hp => by rw [← h, pcs_getD hp]
  have h4 : (leB 4 ((n : Int) - 1)).length = 4 := leB_len 4 _
  have hz : ∀ j, j < 3 → pcs bs (462 + 16 * j) 16 = List.replicate 16 0 := fun j hj => by
    have := P (16 + 16 * j) 16 (by omega)
    rw [show 446 + (16 + 16 * j) = 462 + 16 * j by omega] at this
    rw [this]
    unfold pcs
    rw [List.drop_append, List.drop_of_length_le (by simp; omega), List.nil_append, List.drop_append, List.drop_of_length_le (by rw [h4]; simp; omega), List.nil_append, h4]
    rw [List.drop_append_of_le_length (by simp; omega), List.take_append_of_le_length (by simp; omega), List.drop_replicate, List.take_replicate]
    congr 1
    simp; omega
  have h1 : pcs bs 510 2 = [85, 170] := by
    have := P 64 2 (by decide)
    rw [this]
    have e := pcs_mid (xs := [0, 0, 0, 0, 238, 0, 0, 0, 1, 0, 0, 0] ++ (leB 4 ((n : Int) - 1) ++ List.replicate 48 0)) (ys := [85, 170]) (zs := []) (p := 64) (k := 2) (by simp [h4]) rfl
    simpa only [List.append_assoc, List.append_nil] using e
  have h2 : rec3 bs = true := rec3_t fun j hj => by
    unfold zAll
    rw [hz j (by omega)]
    decide
  have h3 : (bs.getD 446 0).toNat = 0 := by rw [G 0 (by decide)]; rfl
  have h5 : (bs.getD 450 0).toNat = 238 := by rw [G 4 (by decide)]; rfl
  have h6 : fld bs 454 4 = 1 := by
    unfold fld; rw [P 8 4 (by decide)]
    rfl
  have h7 : fld bs 458 4 = (n : Int) - 1 := by
    have e := pcs_mid (xs := [0, 0, 0, 0, 238, 0, 0, 0, 1, 0, 0, 0]) (ys := leB 4 ((n : Int) - 1)) (zs := List.replicate 48 0 ++ [85, 170]) (p := 12) (k := 4) rfl h4
    unfold fld; rw [P 12 4 (by decide), e]
    exact leV_leB 4 (by omega) (by have : (256 : Int) ^ 4 = 4294967296 := by decide
                                   omega)
  unfold protB
  rw [decide_eq_true h1, h2, decide_eq_true h3, decide_eq_true h5, decide_eq_true h6, decide_eq_true h7]
  rfl
def genX : List UInt8 := ((pAt (List.replicate 512 0) 510 [85, 170]).set 446 (b8 0)).set 450 (b8 238)
theorem genX_len : genX.length = 512 := by decide +kernel
theorem pcs_split {bs : List UInt8} {o i k : Nat} : pcs bs o (i + k) = pcs bs o i ++ pcs bs (o + i) k := by
  unfold pcs
  rw [List.take_add, List.drop_drop]
theorem protT_eq (n : Nat) : protT n = [0, 0, 0, 0, 238, 0, 0, 0, 1, 0, 0, 0] ++ (leB 4 ((n : Int) - 1) ++ (List.replicate 48 0 ++ [85, 170])) := by
  have l1 : (leB 4 1).length = 4 := leB_len 4 _
  have l2 : (leB 4 ((n : Int) - 1)).length = 4 := leB_len 4 _
  have h1 : (pAt genX 454 (leB 4 1)).length = 512 := by rw [pAt_len (by rw [l1, genX_len]; decide), genX_len]
  have e : genP ((n : Int) - 1) = pAt (pAt genX 454 (leB 4 1)) 458 (leB 4 ((n : Int) - 1)) := rfl
  unfold protT
  rw [e, show (66 : Nat) = 8 + (4 + (4 + (48 + 2))) from rfl, pcs_split, pcs_split, pcs_split, pcs_split]
  rw [pcs_lo (by rw [l2, h1]; decide) (by decide), pcs_lo (by rw [l1, genX_len]; decide) (by decide), pcs_lo (by rw [l2, h1]; decide) (by decide), pcs_in l1 (by rw [genX_len]; decide), pcs_in l2 (by rw [h1]; decide),
    pcs_hi (by rw [l2, h1]; decide) (by rw [l2]; decide), pcs_hi (by rw [l1, genX_len]; decide) (by rw [l1]; decide), pcs_hi (by rw [l2, h1]; decide) (by rw [l2]; decide), pcs_hi (by rw [l1, genX_len]; decide) (by rw [l1]; decide)]
  have a1 : pcs genX 446 8 = [0, 0, 0, 0, 238, 0, 0, 0] := by decide +kernel
  have a2 : pcs genX (446 + 8 + 4 + 4) 48 = List.replicate 48 0 := by decide +kernel
  have a3 : pcs genX (446 + 8 + 4 + 4 + 48) 2 = [85, 170] := by decide +kernel
  have a4 : leB 4 1 = [1, 0, 0, 0] := by decide
  rw [a1, a2, a3, a4]
  rfl
section wr
variable {ds : List UInt8} {n : Nat} {g : List UInt8} {ps : List GP}
theorem wr_lens (hn : 80 ≤ n) (hd : n * 512 ≤ ds.length) (hf : ∀ p ∈ ps, p.fits) : (wr1 ds n).length = ds.length ∧ (wr2 ds n ps).length = ds.length ∧ (wr3 ds n g ps).length = ds.length ∧ (wr4 ds n g ps).length = ds.length ∧ (wrB ds n g ps).length = ds.length := by
  have hal := arrB_len hf
  have hgl := gB_len g
  have hh1 : (encHdr n g ps).length = 512 := hdrB_len hgl
  have hh2 : (encHdr2 n g ps).length = 512 := hdrB_len hgl
  have hpt := protT_len n
  have e1 : (wr1 ds n).length = ds.length := pAt_len (by omega)
  have e2 : (wr2 ds n ps).length = ds.length := by rw [← e1]; exact pAt_len (by omega)
  have e3 : (wr3 ds n g ps).length = ds.length := by rw [← e2]; exact pAt_len (by omega)
  have e4 : (wr4 ds n g ps).length = ds.length := by rw [← e3]; exact pAt_len (by omega)
  have e5 : (wrB ds n g ps).length = ds.length := by rw [← e4]; exact pAt_len (by omega)
  exact ⟨e1, e2, e3, e4, e5⟩
theorem wr_at (hn : 80 ≤ n) (hd : n * 512 ≤ ds.length) (hf : ∀ p ∈ ps, p.fits) :
    pcs (wrB ds n g ps) 512 512 = encHdr n g ps ∧ pcs (wrB ds n g ps) 1024 16384 = arrB ps ∧ pcs (wrB ds n g ps) ((n - 33) * 512) 16384 = arrB ps ∧ pcs (wrB ds n g ps) ((n - 1) * 512) 512 = encHdr2 n g ps ∧ pcs (wrB ds n g ps) 446 66 = protT n := by
  have hal := arrB_len hf
  have hgl := gB_len g
  have hh1 : (encHdr n g ps).length = 512 := hdrB_len hgl
  have hh2 : (encHdr2 n g ps).length = 512 := hdrB_len hgl
  have hpt := protT_len n
  obtain ⟨e1, e2, e3, e4, e5⟩ := wr_lens (g := g) hn hd hf
  refine ⟨pcs_in hh1 (by omega), ?_, ?_, ?_, ?_⟩
  · unfold wrB; rw [pcs_hi (by omega) (by omega)]; exact pcs_in hal (by omega)
  · unfold wrB; rw [pcs_hi (by omega) (by omega)]; unfold wr4; rw [pcs_hi (by omega) (by omega)]; unfold wr3; rw [pcs_lo (by omega) (by omega)]; exact pcs_in hal (by omega)
  · unfold wrB; rw [pcs_hi (by omega) (by omega)]; unfold wr4; rw [pcs_hi (by omega) (by omega)]; exact pcs_in hh2 (by omega)
  · unfold wrB; rw [pcs_lo (by omega) (by omega)]; unfold wr4; rw [pcs_lo (by omega) (by omega)]; unfold wr3; rw [pcs_lo (by omega) (by omega)]; unfold wr2; rw [pcs_lo (by omega) (by omega)]; exact pcs_in hpt (by omega)
theorem stands_wr (hn : 80 ≤ n ∧ n ≤ 1000000) (hd : ds.length = n * 512) (hf : ∀ p ∈ ps, p.fits) : Stands (wrB ds n g ps) n g ps := by
  obtain ⟨e1, e2, e3, e4, e5⟩ := wr_at (g := g) hn.1 (by omega : n * 512 ≤ ds.length) hf
  have hl := (wr_lens (g := g) hn.1 (by omega : n * 512 ≤ ds.length) hf).2.2.2.2
  exact stands_of hn (by omega) e1 e2 e3 e4 (prot_of2 (by omega) (by rw [pcs0 (by decide), e5, protT_eq]))
theorem pAt_appW {xs Z es : List UInt8} {o : Nat} (h : o + es.length ≤ xs.length) : pAt (xs ++ Z) o es = pAt xs o es ++ Z := by
  unfold pAt
  rw [List.take_append_of_le_length (by omega), List.drop_append_of_le_length (by omega)]
  simp only [List.append_assoc]
theorem wrB_app {Z : List UInt8} (hn : 80 ≤ n) (hd : n * 512 ≤ ds.length) (hf : ∀ p ∈ ps, p.fits) : wrB (ds ++ Z) n g ps = wrB ds n g ps ++ Z := by
  have hal := arrB_len hf
  have hgl := gB_len g
  have hh1 : (encHdr n g ps).length = 512 := hdrB_len hgl
  have hh2 : (encHdr2 n g ps).length = 512 := hdrB_len hgl
  have hpt := protT_len n
  obtain ⟨e1, e2, e3, e4, e5⟩ := wr_lens (g := g) hn hd hf
  unfold wrB wr4 wr3 wr2 wr1
  unfold wr1 at e1; unfold wr2 wr1 at e2; unfold wr3 wr2 wr1 at e3; unfold wr4 wr3 wr2 wr1 at e4
  rw [pAt_appW (by omega), pAt_appW (by omega), pAt_appW (by omega), pAt_appW (by omega), pAt_appW (by omega)]
end wr
theorem OR.call2 {e : TypeId} {sz : Nat} {w0 w1 w2 : World} {S0 S : List Nat} {A M M' : List Ent} {D' : Option Addr} {n' cap' : Nat} {xs' : List Value} (H : SH w0 S0 w1 (A ++ M)) (K : OR e sz w1 S w2 M' D' n' cap' xs') (hS : ∀ s ∈ S, ∃ x ∈ M, x.b = s ∧ x.m = true) (hm : ∀ y ∈ M', y.m = true) : OR e sz w0 S0 w2 (A ++ M') D' n' cap' xs' := by
  refine ⟨K.len, H.call K.sh hS hm, ?_⟩
  rcases K.own with h | ⟨b, cur, h1, h2, h3, h4, h5, h6⟩
  · exact .inl h
  · refine .inr ⟨b, cur, h1, h2, h3, h4, h5, ?_⟩
    have h8 := H.call h6 hS (fun y hy => by
      rcases List.mem_cons.1 hy with rfl | hy
      · rfl
      · exact hm y hy)
    exact h8.perm List.perm_middle
theorem OR.tab {e T : TypeId} {w0 w : World} {S : List Nat} {A : List Ent} {t : Nat} {o : Obj} {l : PL} {D : Option Addr} {m cap : Nat} (O : OR e 1 w0 S w (A ++ (⟨t, o, true⟩ :: ents T l)) D m cap (ptrs l)) :
    (∀ (j : Nat) (x : Nat × List Value), l[j]? = some x → ∃ ad, D = some ad ∧ w.cell? (ad.add j) = some (.pointer (some ⟨x.1, 0, none⟩))) ∧ (∀ ad, D = some ad → ad.block ≠ t ∧ ad.block ∉ l.map Prod.fst ∧ ad.block < w.heap.size) := by
  refine ⟨fun j x hx => O.cells _ _ (ptrs_get hx), fun ad h => ?_⟩
  rcases O.own with ⟨h1, _⟩ | ⟨b, cur, h1, _, _, _, _, h6⟩
  · rw [h1] at h; cases h
  · rw [h1] at h; cases h
    have hp := (List.pairwise_cons.1 h6.ap).1
    refine ⟨hp ⟨t, o, true⟩ (List.mem_append.2 (.inr (.head _))) (by simp), fun hm => ?_, lt_of_at (h6.get _ (.head _))⟩
    obtain ⟨x, hx, e1, _⟩ := b_ents (T := T) hm
    exact hp x (List.mem_append.2 (.inr (.tail _ hx))) (by simp) e1.symm
end Go.Proofs.YthcaejaaalkglaaGreatDoor.X
/- Walks of functions, printed by a program of this claim. -/
namespace Go.Proofs.YthcaejaaalkglaaGreatDoor.X
set_option linter.unusedVariables false
set_option linter.unusedSimpArgs false
open Go Go.RowKit
namespace PF
theorem bo84 : buildOK Tryz.prog 84 = true := by kernel_rfl
theorem ca33 : callable Tryz.prog 33 = true := by kernel_rfl
theorem ca37 : callable Tryz.prog 37 = true := by kernel_rfl
theorem cc84 : Tryz.prog.concrete 84 = true := by kernel_rfl
theorem pl84_0 : placeOf Tryz.prog 84 0 = some (0, 1) := by kernel_rfl
theorem ze84 : zeroL Tryz.prog 84 = some [.pointer none] := by kernel_rfl
end PF
open PF
set_option maxRecDepth 100000 in
set_option maxHeartbeats 8000000 in
theorem c_gptWrite (w : World) (B : Option Addr) (cB : Nat) (ds : List UInt8) (D : Option Addr) (m c : Nat) (g : List UInt8) (rc : Bool) (ps : List GP) (n : Nat) (hn : 80 ≤ n ∧ n ≤ 100000) (hdl : ds.length = n * 512) (hR : RB w B (n * 512) ds) (hq : RG w D m c ps) (hft : ∀ p ∈ ps, p.fit) (hgl : goodL n ps) (hm : m ≤ 128) (hgu : gOk g = true) : Calls Tryz.prog 16 #[.slice B (n * 512) cB, .agg (gtCells D m c 512 g true rc).toArray] w (Ret fun v w' => ∃ bd cm DS cs, v = .tuple #[.slice (some ⟨bd, 0, none⟩) (n * 512) cm, .slice DS 10 cs, .bool true] ∧ n * 512 ≤ cm ∧ OR 46 3 w [] w' [⟨bd, .cells (Bs (wrB ds n g ps ++ List.replicate (cm - n * 512) 0)).toArray 5 (cm, cm + 1), true⟩] DS 10 cs ((stsW n g ps).flatMap St.cells)) := by
 refine enter (fun ρ => .tuple #[ρ 4, ρ 5, ρ 6]) Tryz.func16 rfl rfl rfl (res3 rfl) ?_
 have H := SH.nil w
 have hun : ∀ p ∈ ps, (utf16 p.nm).length ≤ 36 := fun p hp => (hgl.1 p hp).un
 have hfs : ∀ p ∈ ps, p.fits := fun p hp => (hgl.1 p hp).fits
 have hok := hq.ok
 have hn9 : 80 ≤ n ∧ n ≤ 1000000 := ⟨hn.1, by omega⟩
 have hRl := hR.1
 refine sq ?_
 refine rg ?_
 refine bx (v := .agg _) H rfl rfl rfl ?_
 clear H; intro b1 w1 hb1 H _
 refine asg (v := .slice _ _ _) rfl rfl ?_
 refine asg (v := .slice _ _ _) rfl rfl ?_
 refine asg (v := .bool _) rfl rfl ?_
 refine nl ?_
 refine then_n ?_
 refine sq ?_
 refine rg ?_
 refine la H rfl ag24_5 rfl rfl rfl ?_
 refine cl ca37 (c_gptTable _ D m c g true rc ps (hq.keep H.fr) (by omega) hft hun) rfl ?_
 rintro _ w2 ⟨t, D2, cap2, l, rfl, hl1, hl2, hl3, hl4, O⟩
 replace O := O.joinN H (fun x hx => ents_m1 x hx)
 obtain ⟨hrowA, hD2⟩ := OR.tab (A := [_]) O
 replace H := O.sh; clear O
 refine mv (v := .tuple _) rfl rfl ?_
 refine xt rfl rfl rfl ?_
 refine xt rfl rfl rfl ?_
 refine asg (v := .pointer _) rfl rfl ?_
 refine asg (v := .bool _) rfl rfl ?_
 refine nl ?_
 refine then_n ?_
 refine sq ?_
 refine rg ?_
 refine mv (v := .slice _ _ _) rfl rfl ?_
 refine cvBS rfl (by exact hR.keep H.fr) Tryz.underlying30 Tryz.underlying5 Tryz.underlying9 rfl ?_
 refine cl ca30 (c_memoryOf _ ds (by omega)) rfl ?_
 rintro _ w3 ⟨bm, bd, cm, rfl, hcm, K⟩
 have hbm9 := K.ge (b := bm)
 have hbd9 := K.ge (b := bd)
 have FA := K.fr
 replace H := H.join K (by simp); simp only [List.cons_append, List.nil_append] at H; clear K
 rw [hdl] at H
 refine asg (v := .pointer _) rfl rfl ?_
 refine nl ?_
 refine then_n ?_
 refine sq ?_
 refine rg ?_
 refine mv (v := .pointer _) rfl rfl ?_
 refine nc rfl rfl ?_
 refine fa rfl fo76_2 rfl ?_
 refine st (v := .bool _) H rfl rfl sc4 rfl (by show 0 + 2 < 4; decide) (by omega) ?_
 intro w91 H9 F91; clear H; have H := H9
 refine nl ?_
 refine then_n ?_
 refine sq ?_
 refine sq ?_
 refine rg ?_
 refine mv (v := .bool _) rfl rfl ?_
 refine unot rfl rfl ?_
 refine mv (v := .bool _) rfl rfl ?_
 refine spL (t := 23) (b := false) rfl ?_
 refine gy rfl ?_
 refine mv (v := .slice _ _ _) rfl rfl ?_
 refine gy rfl ?_
 refine lnS rfl Tryz.underlying30 rfl ?_
 refine gy rfl ?_
 refine fa rfl fo24_1 rfl ?_
 refine gy rfl ?_
 refine ld H rfl sc3 rfl rfl ?_
 refine gy rfl ?_
 refine mul rfl rfl (by first | exact w_i64 (by omega) | exact w_i64 (rng_i64 _) | rfl) rfl ?_
 refine gy rfl ?_
 refine lss rfl rfl rfl ?_
 refine pkF (v := .bool _) rfl rfl rfl ?_
 refine nl ?_
 refine then_n ?_
 refine cF rfl (by omega) ?_
 refine sk ?_
 refine then_n ?_
 refine sq ?_
 refine rg ?_
 have hrowB := row_same rfl hrowA [] FA (fun _ _ => by simp)
 have hrowC := row_same rfl hrowB [bm] F91 (fun ad e => by have := hD2 ad e; simp only [List.mem_singleton]; omega)
 have HP := H.perm (List.Perm.append_right (ents 126 l) (List.perm_append_comm (l₁ := [_, _]) (l₂ := [_, _])))
 have hDC : ∀ ad, D2 = some ad → ad.block ∉ List.map Ent.b (⟨t, .cells (tbZ D2 m cap2 g true rc).toArray 106 (0, 0), true⟩ :: ⟨bm, .cells ([.slice (some ⟨bd, 0, none⟩) (n * 512) cm, .int .i64 0, .bool true, .slice none 0 0] : List Value).toArray 76 (0, 0), true⟩ :: ⟨bd, .cells (Bs (ds ++ List.replicate (cm - n * 512) 0)).toArray 5 (cm, cm + 1), true⟩ :: ents 126 l) := fun ad e => by
  obtain ⟨d1, d2, d3⟩ := hD2 ad e
  simp only [List.map_cons, List.mem_cons, not_or]
  refine ⟨d1, by omega, by omega, fun h => d2 ?_⟩
  obtain ⟨x, hx, e1⟩ := List.mem_map.1 h
  rw [← e1]; exact ents_b hx
 have hDlC : ∀ ad, D2 = some ad → ad.block ∉ l.map Prod.fst := fun ad e => (hD2 ad e).2.1
 refine mv (v := .pointer _) rfl rfl ?_
 refine mv (v := .pointer _) rfl rfl ?_
 refine bu (out := ?o1) ze84 bo84 ?f1 rfl ?_
 case f1 =>
  refine FL.one (v := .pointer _) rfl pl84_0 rfl (by first | decide | simp) ?_
  exact FL.nil
 refine mi (v := .agg _) rfl cc84 rfl ?_
 refine mv (v := .slice _ _ _) rfl rfl ?_
 refine lnS rfl Tryz.underlying30 rfl ?_
 refine cl ca33 (c_write _ (List.map Ent.b (_ :: _ :: _ :: ents 126 l)) t bm bd cm (cm + 1) (.int .i64 0) 5 (ds ++ List.replicate (cm - n * 512) 0) D2 m cap2 g rc n hn9 l ps (.int .i64 0) (.int .i64 0) hl1 hl2 hrowC hDC hDlC hgl hok hft (by omega) hgu (by rw [List.length_append]; omega) (by omega) (SH.base (A := [_]) HP)) rfl ?_
 rintro _ w4 ⟨DS, cs, rfl, K⟩
 have O := OR.call2 (A := [_]) HP K (fun s hs => by obtain ⟨x, hx, rfl⟩ := List.mem_map.1 hs; exact ⟨x, hx, rfl, by rcases List.mem_cons.1 hx with rfl | hx; rfl; rcases List.mem_cons.1 hx with rfl | hx; rfl; rcases List.mem_cons.1 hx with rfl | hx; rfl; exact ents_m x hx⟩) (by simp)
 simp only [List.cons_append, List.nil_append] at O
 rw [wrB_app hn.1 (by omega) hfs] at O
 replace H := O.sh; clear K HP
 refine asg (v := .nilIface) rfl rfl ?_
 refine nl ?_
 refine then_n ?_
 refine sq ?_
 refine dr (by kernel_rfl) ?_
 have H := H.drew
 replace O := O.drew
 refine hold (fun _ => True) [] ?_
 refine tk (i := 0) rfl (by kernel_rfl) rfl trivial (fun _ _ => r_mv (v := .pointer _) rfl) ?_
 refine tk (i := 1) rfl (by kernel_rfl) rfl trivial (fun _ _ => r_nc rfl) ?_
 refine tk (i := 2) rfl (by kernel_rfl) rfl trivial (fun _ _ => r_fa rfl fo76_0) ?_
 refine tk (i := 4) rfl (by kernel_rfl) rfl trivial (fun _ _ => r_mv (v := .pointer _) rfl) ?_
 refine tk (i := 5) rfl (by kernel_rfl) rfl trivial (fun _ _ => r_nc rfl) ?_
 refine tk (i := 6) rfl (by kernel_rfl) rfl trivial (fun _ _ => r_fa rfl fo76_3) ?_
 refine tk (i := 8) rfl (by kernel_rfl) rfl trivial (fun _ _ => r_mv (v := .nilIface) rfl) ?_
 refine tk (i := 9) rfl (by kernel_rfl) rfl trivial (fun _ _ => r_eqlI0 rfl Tryz.underlying73) ?_
 refine unfree ?_
 refine holdH H [] ?_
 refine tk (i := 3) rfl (by kernel_rfl) rfl H (fun w' H => r_ld H rfl sc30 rfl) ?_
 refine tk (i := 7) rfl (by kernel_rfl) rfl H (fun w' H => r_ld H rfl sc39 rfl) ?_
 refine tk (i := 10) rfl (by kernel_rfl) rfl H (fun w' H => r_asg (v := .slice _ _ _) rfl) ?_
 refine tk (i := 11) rfl (by kernel_rfl) rfl H (fun w' H => r_asg (v := .slice _ _ _) rfl) ?_
 refine tk (i := 12) rfl (by kernel_rfl) rfl H (fun w' H => r_asg (v := .bool _) rfl) ?_
 refine da (by kernel_rfl) ?_
 refine then_n ?_
 refine rt ?_
 refine fin_r ?_
 refine ⟨bd, cm, DS, cs, rfl, by omega, ?_⟩
 exact O.subX
end Go.Proofs.YthcaejaaalkglaaGreatDoor.X
/- A row of stores, to be read. -/
namespace Go.Proofs.YthcaejaaalkglaaGreatDoor.X
set_option linter.unusedVariables false
open Go
theorem row3 {w : World} {ad : Addr} {xs : List St} {i : Nat} {st : St} (hrow : ∀ j u, (xs.flatMap St.cells)[j]? = some u → ∃ ad', some ad = some ad' ∧ w.cell? (ad'.add j) = some u) (h : xs[i]? = some st) : ∀ j v, st.cells[j]? = some v → w.cell? ((ad.add (i * 3)).add j) = some v := by
 intro j v hv
 have hg := flat_get St.cells_len xs i st h
 have hj : j < 3 := by have := (List.getElem?_eq_some_iff.1 hv).1; rwa [St.cells_len] at this
 have e : (xs.flatMap St.cells)[i * 3 + j]? = some v := by
  rw [← hv, ← hg, List.getElem?_take, if_pos hj, List.getElem?_drop]
 obtain ⟨ad', he, hc⟩ := hrow _ v e
 obtain rfl := Option.some.inj he
 rw [Addr.add_add]; exact hc
end Go.Proofs.YthcaejaaalkglaaGreatDoor.X
/- Walks of functions, printed by a program of this claim. -/
namespace Go.Proofs.YthcaejaaalkglaaGreatDoor.X
set_option linter.unusedVariables false
set_option linter.unusedSimpArgs false
open Go Go.RowKit
namespace PF
theorem ag46_3 : aggB Tryz.prog 46 3 = true := by kernel_rfl
theorem ca10 : callable Tryz.prog 10 = true := by kernel_rfl
theorem ca11 : callable Tryz.prog 11 = true := by kernel_rfl
theorem ca16 : callable Tryz.prog 16 = true := by kernel_rfl
theorem ca8 : callable Tryz.prog 8 = true := by kernel_rfl
theorem ca9 : callable Tryz.prog 9 = true := by kernel_rfl
theorem fo46_0 : fieldOff Tryz.prog 46 0 = some 0 := by kernel_rfl
end PF
open PF
end Go.Proofs.YthcaejaaalkglaaGreatDoor.X
/- Units up to the first zero, as a text. -/
namespace Go.Proofs.YthcaejaaalkglaaGreatDoor.X
set_option linter.unusedVariables false
open Go Go.RowKit
def upto0 (us : List Int) : List Int := us.takeWhile fun u => decide (u ≠ 0)
def fixR (r : Int) : Int := if 55296 ≤ r ∧ r < 57344 then 65533 else r
theorem tw_go : ∀ {us : List Int} {i : Nat} {u : Int}, i ≤ (upto0 us).length → us[i]? = some u → u ≠ 0 → (upto0 us)[i]? = some u
 | [], i, u, _, h, _ => by simp at h
 | a :: r, 0, u, _, h, hu => by
  simp at h; subst h
  simp [upto0, hu]
 | a :: r, i + 1, u, hi, h, hu => by
  by_cases ha : a = 0
  ·subst ha; simp [upto0] at hi
  ·have e : upto0 (a :: r) = a :: upto0 r := by simp [upto0, ha]
   rw [e] at hi ⊢
   rw [List.getElem?_cons_succ] at h ⊢
   exact tw_go (by simpa using hi) h hu
theorem tw_sub : ∀ {us : List Int} {i : Nat} {u : Int}, (upto0 us)[i]? = some u → us[i]? = some u
 | [], i, u, h => by simp [upto0] at h
 | a :: r, i, u, h => by
  by_cases ha : a = 0
  ·subst ha; simp [upto0] at h
  ·have e : upto0 (a :: r) = a :: upto0 r := by simp [upto0, ha]
   rw [e] at h
   cases i with
   | zero => simpa using h
   | succ i => rw [List.getElem?_cons_succ] at h ⊢; exact tw_sub h
theorem tw_le (us : List Int) : (upto0 us).length ≤ us.length := (List.takeWhile_prefix (l := us) _).length_le
theorem tw_stop : ∀ {us : List Int} {i : Nat}, i ≤ (upto0 us).length → us[i]? = some 0 → (upto0 us).length = i
 | [], i, _, h => by simp at h
 | a :: r, 0, _, h => by simp at h; subst h; simp [upto0]
 | a :: r, i + 1, hi, h => by
  by_cases ha : a = 0
  ·subst ha; simp [upto0] at hi
  ·have e : upto0 (a :: r) = a :: upto0 r := by simp [upto0, ha]
   rw [e] at hi ⊢
   rw [List.getElem?_cons_succ] at h
   simp only [List.length_cons]
   rw [tw_stop (by simpa using hi) h]
theorem fix_one {us : List Int} {i : Nat} {u : Int} (h : us[i]? = some u) (hn : ∀ v, us[i + 1]? = some v → ¬ (55296 ≤ u ∧ u < 56320 ∧ 56320 ≤ v ∧ v < 57344)) : dec16 (us.drop i) = fixR u :: dec16 (us.drop (i + 1)) := by
 unfold fixR
 split
 ·exact dec_C h (by omega) fun v hv => by have := hn v hv; omega
 ·exact dec_A h (by omega)
theorem fix_two {us : List Int} {i : Nat} {u v : Int} (h : us[i]? = some u) (h2 : us[i + 1]? = some v) (hu : 55296 ≤ u ∧ u < 56320) (hv : 56320 ≤ v ∧ v < 57344) : dec16 (us.drop i) = fixR (65536 + (u - 55296) * 1024 + v - 56320) :: dec16 (us.drop (i + 2)) := by
 rw [dec_B h h2 (by omega) (by omega)]
 unfold fixR
 rw [if_neg (by omega)]
 congr 1; omega
theorem fixR_t {r : Int} (h : 55296 ≤ r ∧ r < 57344) : fixR r = 65533 := if_pos h
theorem fixR_f {r : Int} (h : ¬ (55296 ≤ r ∧ r < 57344)) : fixR r = r := if_neg h
end Go.Proofs.YthcaejaaalkglaaGreatDoor.X
