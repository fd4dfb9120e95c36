/- Laws and walks on the road to the statement: GuidPure2, P7, P8, Steps7, P9, GptRead, P10, P11, P12, P13. -/
import Derived.Test.YthcaejaaalkglaaDoorM3
/- Identifiers as the package orders and prints them. -/
namespace Go.Proofs.YthcaejaaalkglaaDoor.X
open Go
set_option linter.unusedVariables false
set_option linter.unusedSimpArgs false
def swU (xs : List UInt8) (i j : Nat) : List UInt8 := (xs.set i (xs.getD j 0)).set j (xs.getD i 0)
def rvN (xs : List UInt8) (o n : Nat) : Nat → List UInt8
 | 0 => xs
 | k + 1 => swU (rvN xs o n k) (o + k) (o + (n - 1 - k))
theorem rvN_len (xs : List UInt8) (o n : Nat) : ∀ k, (rvN xs o n k).length = xs.length
 | 0 => rfl
 | k + 1 => by simp [rvN, swU, rvN_len xs o n k]
def permB (b : List UInt8) : List UInt8 := ordL.map fun k => b.getD k 0
theorem permB_len (b : List UInt8) : (permB b).length = 16 := rfl
theorem list16 {b : List UInt8} (h : b.length = 16) : ∃ b0 b1 b2 b3 b4 b5 b6 b7 b8 b9 b10 b11 b12 b13 b14 b15, b = [b0, b1, b2, b3, b4, b5, b6, b7, b8, b9, b10, b11, b12, b13, b14, b15] := by
 match b, h with
 | [b0, b1, b2, b3, b4, b5, b6, b7, b8, b9, b10, b11, b12, b13, b14, b15], _ => exact ⟨b0, b1, b2, b3, b4, b5, b6, b7, b8, b9, b10, b11, b12, b13, b14, b15, rfl⟩
theorem rv_perm {b : List UInt8} (h : b.length = 16) : rvN (rvN (rvN b 0 4 2) 4 2 1) 6 2 1 = permB b := by
 obtain ⟨b0, b1, b2, b3, b4, b5, b6, b7, b8, b9, b10, b11, b12, b13, b14, b15, rfl⟩ := list16 h
 rfl
def parB (s : List UInt8) : List UInt8 := tPos.map (byteAt s)
def hexC : List UInt8 := [48, 49, 50, 51, 52, 53, 54, 55, 56, 57, 97, 98, 99, 100, 101, 102]
def sTk (u : List UInt8) (k : Nat) : List UInt8 := (if dashT k then [45] else []) ++ [hexC.getD ((u.getD k 0).toNat / 16) 0, hexC.getD ((u.getD k 0).toNat % 16) 0]
def sTp (u : List UInt8) (i : Nat) : List UInt8 := (List.range i).flatMap (sTk u)
def sT (u : List UInt8) : List UInt8 := sTp u 16
theorem sTp_succ (u : List UInt8) (i : Nat) : sTp u (i + 1) = sTp u i ++ sTk u i := by simp [sTp, List.range_succ]
theorem sTp_len (u : List UInt8) : ∀ i, (sTp u i).length ≤ 3 * i
 | 0 => by simp [sTp]
 | i + 1 => by
  rw [sTp_succ, List.length_append]
  have := sTp_len u i
  have : (sTk u i).length ≤ 3 := by unfold sTk; split <;> simp
  omega
def upB (c : UInt8) : UInt8 := if 97 ≤ c.toNat ∧ c.toNat ≤ 122 then b8 ((c.toNat : Int) - 32) else c
def upL (s : List UInt8) : List UInt8 := s.map upB
def upP (s : List UInt8) (i : Nat) : List UInt8 := upL (s.take i) ++ s.drop i
theorem upP_len (s : List UInt8) (i : Nat) : (upP s i).length = s.length := by simp [upP, upL]; omega
theorem upP_zero (s : List UInt8) : upP s 0 = s := by simp [upP, upL]
theorem upP_all {s : List UInt8} {i : Nat} (h : s.length ≤ i) : upP s i = upL s := by simp [upP, List.take_of_length_le h, List.drop_of_length_le h]
theorem upP_getD {s : List UInt8} {i : Nat} : (upP s i).getD i 0 = s.getD i 0 := by
 unfold upP upL
 simp only [List.getD_eq_getElem?_getD]
 by_cases h : i < s.length
 ·rw [List.getElem?_append_right (by simp; omega)]
  simp [show min i s.length = i by omega]
 ·rw [List.drop_of_length_le (by omega), List.append_nil]
  rw [List.getElem?_eq_none (by simp; omega), List.getElem?_eq_none (by omega)]
theorem upP_succ {s : List UInt8} {i : Nat} (h : i < s.length) : upP s (i + 1) = (upP s i).set i (upB (s.getD i 0)) := by
 unfold upP upL
 rw [List.set_append_right _ _ (by simp; omega), List.length_map, List.length_take, show i - min i s.length = 0 by omega, List.drop_eq_getElem_cons h, List.set_cons_zero]
 rw [List.take_succ_eq_append_getElem h, List.map_append]
 simp only [List.getD_eq_getElem?_getD, List.getElem?_eq_getElem h, Option.getD_some, List.append_assoc, List.map_cons, List.map_nil]
 rfl
theorem up_at {s J : List UInt8} {i : Nat} (h : i < s.length) : (upP s i ++ J)[i]? = some (s.getD i 0) := by
 have := upP_len s i
 rw [List.getElem?_append_left (by omega), ← upP_getD, List.getD_eq_getElem?_getD, List.getElem?_eq_getElem (by omega)]; rfl
theorem up_fin {s J : List UInt8} {i : Nat} (h : s.length ≤ i) : ((upP s i ++ J).drop 0).take s.length = upL s := by
 rw [List.drop_zero, upP_all h, show s.length = (upL s).length by simp [upL], List.take_left]
theorem upP_same {s : List UInt8} {i : Nat} (h : i < s.length) (h2 : ¬ (97 ≤ (s.getD i 0).toNat ∧ (s.getD i 0).toNat ≤ 122)) : upP s (i + 1) = upP s i := by
 rw [upP_succ h, upB, if_neg h2, ← upP_getD]
 have := upP_len s i
 rw [List.getD_eq_getElem?_getD, List.getElem?_eq_getElem (by omega), Option.getD_some, List.set_getElem_self]
theorem upP_up {s : List UInt8} {i : Nat} (h : i < s.length) (h2 : 97 ≤ (s.getD i 0).toNat ∧ (s.getD i 0).toNat ≤ 122) : upP s (i + 1) = (upP s i).set i (b8 (((s.getD i 0).toNat : Int) - 32)) := by
 rw [upP_succ h, upB, if_pos h2]
theorem up_put {s J : List UInt8} {i : Nat} (h : i < s.length) (h2 : 97 ≤ (s.getD i 0).toNat ∧ (s.getD i 0).toNat ≤ 122) : (upP s i ++ J).set i (b8 (((s.getD i 0).toNat : Int) - 32)) = upP s (i + 1) ++ J := by
 have := upP_len s i
 rw [List.set_append_left _ _ (by omega), upP_up h h2]
theorem up_hex : ∀ k : Fin 16, upB (hexC.getD k.val 0) = capL.getD k.val 0 := by decide +kernel
theorem up_hex' {k : Nat} (h : k < 16) : upB (hexC.getD k 0) = capL.getD k 0 := up_hex ⟨k, h⟩
theorem up_sTk {b : List UInt8} {k : Nat} (h : b.length = 16) (hk : k < 16) : upL (sTk (permB b) k) = gTk b k := by
 have e : (permB b).getD k 0 = b.getD (ordL.getD k 0) 0 := by
  unfold permB
  have : k < ordL.length := hk
  simp [List.getD_eq_getElem?_getD, this]
 unfold sTk gTk upL
 rw [e]
 have hc := UInt8.toNat_lt (b.getD (ordL.getD k 0) 0)
 rw [List.map_append, List.map_cons, List.map_cons, List.map_nil, up_hex' (by omega), up_hex' (by omega)]
 congr 1
 split <;> rfl
theorem up_sT {b : List UInt8} (h : b.length = 16) : upL (sT (permB b)) = gT b := by
 have key : ∀ i, i ≤ 16 → upL (sTp (permB b) i) = gTp b i := by
  intro i
  induction i with
  | zero => intro _; rfl
  | succ i ih =>
   intro hi
   rw [sTp_succ, gTp_succ, ← ih (by omega), ← up_sTk h (by omega)]
   simp [upL]
 exact key 16 (Nat.le_refl _)
theorem hexN_cap : ∀ k : Fin 16, hexN ((capL.getD k.val 0).toNat : Int) = k.val := by decide +kernel
theorem hexN_cap' {k : Nat} (h : k < 16) : hexN ((capL.getD k 0).toNat : Int) = k := hexN_cap ⟨k, h⟩
theorem gT_len {b : List UInt8} (h : b.length = 16) : (gT b).length = 36 := rfl
theorem nibs (c : UInt8) : b8 (((c.toNat / 16 : Nat) : Int) * 16 + ((c.toNat % 16 : Nat) : Int)) = c := by
 have : ((c.toNat / 16 : Nat) : Int) * 16 + ((c.toNat % 16 : Nat) : Int) = (c.toNat : Int) := by omega
 rw [this, b8_toNat]
theorem gT_ok {b : List UInt8} (h : b.length = 16) : gOk (gT b) = true ∧ gRaw (gT b) = b := by
 obtain ⟨b0, b1, b2, b3, b4, b5, b6, b7, b8', b9, b10, b11, b12, b13, b14, b15, rfl⟩ := list16 h
 generalize hb : [b0, b1, b2, b3, b4, b5, b6, b7, b8', b9, b10, b11, b12, b13, b14, b15] = b at *
 have l := fun c : UInt8 => UInt8.toNat_lt c
 have hi : ∀ c : UInt8, hexN ((capL.getD (c.toNat / 16) 0).toNat : Int) = ((c.toNat / 16 : Nat) : Int) := fun c => hexN_cap' (by have := l c; omega)
 have lo : ∀ c : UInt8, hexN ((capL.getD (c.toNat % 16) 0).toNat : Int) = ((c.toNat % 16 : Nat) : Int) := fun c => hexN_cap' (by omega)
 have e : gT b = [capL.getD (b3.toNat / 16) 0, capL.getD (b3.toNat % 16) 0, capL.getD (b2.toNat / 16) 0, capL.getD (b2.toNat % 16) 0, capL.getD (b1.toNat / 16) 0, capL.getD (b1.toNat % 16) 0, capL.getD (b0.toNat / 16) 0, capL.getD (b0.toNat % 16) 0, 45,
   capL.getD (b5.toNat / 16) 0, capL.getD (b5.toNat % 16) 0, capL.getD (b4.toNat / 16) 0, capL.getD (b4.toNat % 16) 0, 45, capL.getD (b7.toNat / 16) 0, capL.getD (b7.toNat % 16) 0, capL.getD (b6.toNat / 16) 0, capL.getD (b6.toNat % 16) 0, 45,
   capL.getD (b8'.toNat / 16) 0, capL.getD (b8'.toNat % 16) 0, capL.getD (b9.toNat / 16) 0, capL.getD (b9.toNat % 16) 0, 45,
   capL.getD (b10.toNat / 16) 0, capL.getD (b10.toNat % 16) 0, capL.getD (b11.toNat / 16) 0, capL.getD (b11.toNat % 16) 0, capL.getD (b12.toNat / 16) 0, capL.getD (b12.toNat % 16) 0, capL.getD (b13.toNat / 16) 0, capL.getD (b13.toNat % 16) 0, capL.getD (b14.toNat / 16) 0, capL.getD (b14.toNat % 16) 0, capL.getD (b15.toNat / 16) 0, capL.getD (b15.toNat % 16) 0] := by
  subst hb; rfl
 constructor
 ·refine gOk_of (gT_len (by rw [← hb]; rfl)) ?_
  intro j hj
  have hx : ∀ k, k < 36 → dashB k = false → 0 ≤ nib (gT b) k := by
   intro k hk
   rw [e]
   unfold nib
   revert hk
   match k with
   | 0 | 2 | 4 | 6 | 9 | 11 | 14 | 16 | 19 | 21 | 24 | 26 | 28 | 30 | 32 | 34 => intro _ _; exact Int.le_trans (Int.natCast_nonneg _) (Int.le_of_eq (hi _).symm)
   | 1 | 3 | 5 | 7 | 10 | 12 | 15 | 17 | 20 | 22 | 25 | 27 | 29 | 31 | 33 | 35 => intro _ _; exact Int.le_trans (Int.natCast_nonneg _) (Int.le_of_eq (lo _).symm)
   | 8 | 13 | 18 | 23 => intro _ h; cases h
   | n + 36 => intro h; exact absurd h (by omega)
  by_cases hd : dashB j = true
  ·refine okAt_dash hd ?_
   unfold dashB at hd
   simp only [Bool.or_eq_true, beq_iff_eq] at hd
   rw [e]
   rcases hd with ((rfl | rfl) | rfl) | rfl <;> rfl
  ·have hd' : dashB j = false := by simpa using hd
   exact okAt_hex hd' (by have := hx j hj hd'; omega)
 ·have key : ∀ (p : Nat) (c : UInt8), nib (gT b) p = ((c.toNat / 16 : Nat) : Int) → nib (gT b) (p + 1) = ((c.toNat % 16 : Nat) : Int) → byteAt (gT b) p = c := fun p c h1 h2 => by
   unfold byteAt; rw [h1, h2]; exact nibs c
  have kk : ∀ (p : Nat) (c : UInt8), (gT b).getD p 0 = capL.getD (c.toNat / 16) 0 → (gT b).getD (p + 1) 0 = capL.getD (c.toNat % 16) 0 → byteAt (gT b) p = c := fun p c h1 h2 => key p c (by unfold nib; rw [h1]; exact hi c) (by unfold nib; rw [h2]; exact lo c)
  have er : gRaw (gT b) = [byteAt (gT b) 6, byteAt (gT b) 4, byteAt (gT b) 2, byteAt (gT b) 0, byteAt (gT b) 11, byteAt (gT b) 9, byteAt (gT b) 16, byteAt (gT b) 14, byteAt (gT b) 19, byteAt (gT b) 21, byteAt (gT b) 24, byteAt (gT b) 26, byteAt (gT b) 28, byteAt (gT b) 30, byteAt (gT b) 32, byteAt (gT b) 34] := rfl
  rw [er, kk 6 b0 (by rw [e]; rfl) (by rw [e]; rfl), kk 4 b1 (by rw [e]; rfl) (by rw [e]; rfl), kk 2 b2 (by rw [e]; rfl) (by rw [e]; rfl), kk 0 b3 (by rw [e]; rfl) (by rw [e]; rfl), kk 11 b4 (by rw [e]; rfl) (by rw [e]; rfl), kk 9 b5 (by rw [e]; rfl) (by rw [e]; rfl), kk 16 b6 (by rw [e]; rfl) (by rw [e]; rfl), kk 14 b7 (by rw [e]; rfl) (by rw [e]; rfl), kk 19 b8' (by rw [e]; rfl) (by rw [e]; rfl), kk 21 b9 (by rw [e]; rfl) (by rw [e]; rfl), kk 24 b10 (by rw [e]; rfl) (by rw [e]; rfl), kk 26 b11 (by rw [e]; rfl) (by rw [e]; rfl), kk 28 b12 (by rw [e]; rfl) (by rw [e]; rfl), kk 30 b13 (by rw [e]; rfl) (by rw [e]; rfl), kk 32 b14 (by rw [e]; rfl) (by rw [e]; rfl), kk 34 b15 (by rw [e]; rfl) (by rw [e]; rfl), hb]
theorem gB_gT {b : List UInt8} (h : b.length = 16) : gB (gT b) = b := by
 have := gT_ok h
 rw [gB_ok this.1, this.2]
theorem gT_inj {a b : List UInt8} (ha : a.length = 16) (hb : b.length = 16) (h : gT a = gT b) : a = b := by
 rw [← gB_gT ha, ← gB_gT hb, h]
end Go.Proofs.YthcaejaaalkglaaDoor.X
/- Walks of functions, printed by a program of this claim. -/
namespace Go.Proofs.YthcaejaaalkglaaDoor.X
set_option linter.unusedVariables false
set_option linter.unusedSimpArgs false
open Go Go.RowKit
namespace PF
theorem ca75 : callable Tryd.prog 75 = true := by kernel_rfl
end PF
open PF
set_option maxRecDepth 100000 in
set_option maxHeartbeats 1000000 in
theorem c_rev (w : World) (b o n c : Nat) (T : TypeId) (xs : List UInt8) (junk : List Value) (hb : w.heap[b]? = some (.cells (Bs (xs) ++ junk).toArray T (0, 0))) (ho : o + n ≤ xs.length) (hn : n ≤ 1000) : Calls Tryd.prog 75 #[.slice (some ⟨b, o, none⟩) n c] w (Ret fun v w' => v = .tuple #[] ∧ Fr [b] w w' ∧ w'.heap[b]? = some (.cells (Bs (rvN xs o n (n / 2)) ++ junk).toArray T (0, 0))) := by
 refine enter (fun _ => .tuple #[]) Tryd.func75 rfl rfl rfl (res0 rfl) ?_
 have H := SH.rw1 hb
 refine sq ?_
 refine rg ?_
 refine mv (v := .slice _ _ _) rfl rfl ?_
 refine lnS rfl Tryd.underlying30 rfl ?_
 refine sub rfl rfl (by first | exact w_i64 (by omega) | exact w_i64 (rng_i64 _) | rfl) rfl ?_
 refine asg (v := .int .i64 _) rfl rfl ?_
 refine asg (v := .int .i64 _) rfl rfl ?_
 refine nl ?_
 refine then_n ?_
 refine bk ?_
 refine lpM (α := Nat) [2, 3, 7, 8, 9, 10, 11, 12, 13, 14, 15, 16, 17, 18, 19, 20, 21, 22, 23, 24, 25, 26, 27] (fun i => [(2, .int .i64 (i : Int)), (3, .int .i64 ((n : Int) - 1 - i))]) (fun i w' => i ≤ n / 2 ∧ SH w [b] w' [⟨b, .cells (Bs (rvN xs o n i) ++ junk).toArray T (0, 0), true⟩]) (fun i => n - i) 0 ?_ (fCX (fCX (fN _))) ?_
 ·exact ⟨by omega, H⟩
 ·rintro i ρx w1 ⟨hi, H⟩
  have hrl := rvN_len xs o n i
  refine sq ?_
  refine sq ?_
  refine rg ?_
  refine mv (v := .int .i64 _) rfl rfl ?_
  refine mv (v := .int .i64 _) rfl rfl ?_
  refine lss rfl rfl rfl ?_
  refine nl ?_
  refine then_n ?_
  refine cd rfl (fun hc1 => ?_) (fun hc1 => ?_)
  ·refine sk ?_
   refine then_n ?_
   refine sq ?_
   refine bk ?_
   refine dr (by kernel_rfl) ?_
   have H := H.drew
   refine hold (fun _ => True) [] ?_
   refine tk (i := 0) rfl (by kernel_rfl) rfl trivial (fun _ _ => r_mv (v := .slice _ _ _) rfl) ?_
   refine tk (i := 1) rfl (by kernel_rfl) rfl trivial (fun _ _ => r_mv (v := .int .i64 _) rfl) ?_
   refine tk (i := 2) rfl (by kernel_rfl) rfl trivial (fun _ _ => r_mv (v := .slice _ _ _) rfl) ?_
   refine tk (i := 3) rfl (by kernel_rfl) rfl trivial (fun _ _ => r_mv (v := .int .i64 _) rfl) ?_
   refine tk (i := 4) rfl (by kernel_rfl) rfl trivial (fun _ _ => r_mv (v := .slice _ _ _) rfl) ?_
   refine tk (i := 5) rfl (by kernel_rfl) rfl trivial (fun _ _ => r_mv (v := .int .i64 _) rfl) ?_
   refine tk (i := 6) rfl (by kernel_rfl) rfl trivial (fun _ _ => r_iaN (o + (n - 1 - i)) rfl rfl Tryd.underlying30 sz5_1 (by omega) (by omega)) ?_
   refine tk (i := 8) rfl (by kernel_rfl) rfl trivial (fun _ _ => r_mv (v := .slice _ _ _) rfl) ?_
   refine tk (i := 9) rfl (by kernel_rfl) rfl trivial (fun _ _ => r_mv (v := .int .i64 _) rfl) ?_
   refine tk (i := 10) rfl (by kernel_rfl) rfl trivial (fun _ _ => r_iaN (o + i) rfl rfl Tryd.underlying30 sz5_1 (by omega) (by omega)) ?_
   refine unfree ?_
   refine holdH H [13, 15] ?_
   refine tk (i := 7) rfl (by kernel_rfl) rfl H (fun w' H => r_ld (v := .int .u8 (((rvN xs o n i).getD (o + (n - 1 - i)) 0).toNat : Int)) H rfl sc5 (BJ_get (by omega))) ?_
   refine tk (i := 11) rfl (by kernel_rfl) rfl H (fun w' H => r_ld (v := .int .u8 (((rvN xs o n i).getD (o + i) 0).toNat : Int)) H rfl sc5 (BJ_get (by omega))) ?_
   refine tk (i := 12) rfl (by kernel_rfl) rfl H (fun w' H => r_iaN (o + i) rfl rfl Tryd.underlying30 sz5_1 (by omega) (by omega)) ?_
   refine fb (i := 13) (by kernel_rfl) rfl rfl rfl ?_
   refine st (v := .int .u8 _) H rfl rfl sc5 rfl (by rw [BJ_len]; omega) (by omega) ?_
   clear H; intro w91 H _
   replace H := sh_cells0 H (BJ_set (by omega))
   refine nl ?_
   refine then_n ?_
   refine holdH H [15] ?_
   refine tk (i := 14) rfl (by kernel_rfl) rfl H (fun w' H => r_iaN (o + (n - 1 - i)) rfl rfl Tryd.underlying30 sz5_1 (by omega) (by omega)) ?_
   refine fb (i := 15) (by kernel_rfl) rfl rfl rfl ?_
   refine st (v := .int .u8 _) H rfl rfl sc5 rfl (by rw [BJ_len]; simp; omega) (by omega) ?_
   clear H; intro w92 H _
   replace H := sh_cells0 H (BJ_set (by simp; omega))
   refine nl ?_
   refine then_n ?_
   refine dn (by kernel_rfl) ?_
   refine in_n ?_
   refine then_n ?_
   refine rg ?_
   refine mv (v := .int .i64 _) rfl rfl ?_
   refine add rfl rfl (by first | exact w_i64 (by omega) | exact w_i64 (rng_i64 _) | rfl) rfl ?_
   refine mv (v := .int .i64 _) rfl rfl ?_
   refine sub rfl rfl (by first | exact w_i64 (by omega) | exact w_i64 (rng_i64 _) | rfl) rfl ?_
   refine asg (v := .int .i64 _) rfl rfl ?_
   refine asg (v := .int .i64 _) rfl rfl ?_
   refine nl ?_
   refine loop_n ?_
   exact ⟨i + 1, (by (try dsimp only); omega), ⟨by omega, H⟩, (fCX (fCX (fN _))), agX⟩
  ·refine ex ?_
   refine then_e ?_
   refine loop_e ?_
   refine in_hit rfl ?_
   refine fin_n ?_
   obtain rfl : i = n / 2 := by omega
   exact ⟨rfl, H.fr, H.look⟩
set_option maxRecDepth 100000 in
set_option maxHeartbeats 1000000 in
theorem c_toUUID (w : World) (B : Option Addr) (n c : Nat) (b : List UInt8) (hR : RB w B n b) (hn : n = 16) (hc : n ≤ c) (hB : ∃ q o, B = some ⟨q, o, none⟩) : Calls Tryd.prog 62 #[.slice B n c] w (Ret fun v w' => ∃ q cq junk, v = .slice (some ⟨q, 0, none⟩) 16 cq ∧ w.heap.size ≤ q ∧ w'.heap[q]? = some (.cells (Bs (permB b) ++ junk).toArray 5 (0, 0)) ∧ Fr [] w w') := by
 refine enter (fun ρ => ρ 2) Tryd.func62 rfl rfl rfl (res1 rfl) ?_
 obtain ⟨qB, oB, rfl⟩ := hB
 have H := SH.nil w
 have hRl := hR.1
 refine sq ?_
 refine rg ?_
 refine asg (v := .slice _ _ _) rfl rfl ?_
 refine nl ?_
 refine then_n ?_
 refine sq ?_
 refine rg ?_
 refine mkB H rfl rfl Tryd.underlying30 mi5 (by omega) (by omega) (by omega) (by omega) rfl ?_
 clear H; intro b1 w1 hb1 H _
 refine asg (v := .slice _ _ _) rfl rfl ?_
 refine nl ?_
 refine then_n ?_
 refine sq ?_
 refine rg ?_
 refine mv (v := .slice _ _ _) rfl rfl ?_
 refine mv (v := .slice _ _ _) rfl rfl ?_
 refine sllhN (oB) (16) (c) rfl rfl rfl Tryd.underlying30 sz5_1 (by omega) (by omega) rfl ?_
 refine apS (zs := [.int .u8 0]) (Bs b) (OR.made (n := 0) H (by decide) (by decide) rfl) rfl rfl Tryd.underlying30 ri5 (by rw [Bs_length, hRl, hn]; rfl) (RB.cells (n := 16) (by rw [hn] at hR; exact hR.keep H.fr)) Bs_one (by simp) (by omega) (by unfold maxLen; omega) rfl ?_
 clear H; intro a9 cp9 w2 O
 obtain ⟨q, cur, rfl, hn9, hcm, hcl, htk, H⟩ := O.blk
 obtain ⟨junk, hj⟩ := take_split (htk.trans (List.nil_append _))
 subst hj; clear htk
 refine asg (v := .slice _ _ _) rfl rfl ?_
 refine nl ?_
 refine then_n ?_
 refine sq ?_
 refine rg ?_
 refine mv (v := .slice _ _ _) rfl rfl ?_
 refine sllhN (0) (4) (cp9) rfl rfl rfl Tryd.underlying30 sz5_1 (by omega) (by omega) rfl ?_
 refine asg (v := .slice _ _ _) rfl rfl ?_
 refine nl ?_
 refine then_n ?_
 refine sq ?_
 refine rg ?_
 refine mv (v := .slice _ _ _) rfl rfl ?_
 refine cl ca75 (c_rev _ _ _ _ _ _ _ _ H.look (by (try simp only [rvN_len]); omega) (by omega)) rfl ?_
 rintro _ w3 ⟨rfl, F, hnew⟩
 replace H := H.put F hnew; clear F hnew
 refine nl ?_
 refine then_n ?_
 refine sq ?_
 refine rg ?_
 refine mv (v := .slice _ _ _) rfl rfl ?_
 refine sllhN (4) (2) (cp9 - 4) rfl rfl rfl Tryd.underlying30 sz5_1 (by omega) (by omega) rfl ?_
 refine asg (v := .slice _ _ _) rfl rfl ?_
 refine nl ?_
 refine then_n ?_
 refine sq ?_
 refine rg ?_
 refine mv (v := .slice _ _ _) rfl rfl ?_
 refine cl ca75 (c_rev _ _ _ _ _ _ _ _ H.look (by (try simp only [rvN_len]); omega) (by omega)) rfl ?_
 rintro _ w4 ⟨rfl, F, hnew⟩
 replace H := H.put F hnew; clear F hnew
 refine nl ?_
 refine then_n ?_
 refine sq ?_
 refine rg ?_
 refine mv (v := .slice _ _ _) rfl rfl ?_
 refine sllhN (6) (2) (cp9 - 6) rfl rfl rfl Tryd.underlying30 sz5_1 (by omega) (by omega) rfl ?_
 refine asg (v := .slice _ _ _) rfl rfl ?_
 refine nl ?_
 refine then_n ?_
 refine sq ?_
 refine rg ?_
 refine mv (v := .slice _ _ _) rfl rfl ?_
 refine cl ca75 (c_rev _ _ _ _ _ _ _ _ H.look (by (try simp only [rvN_len]); omega) (by omega)) rfl ?_
 rintro _ w5 ⟨rfl, F, hnew⟩
 replace H := H.put F hnew; clear F hnew
 refine nl ?_
 refine then_n ?_
 refine sq ?_
 refine rg ?_
 refine mv (v := .slice _ _ _) rfl rfl ?_
 refine asg (v := .slice _ _ _) rfl rfl ?_
 refine nl ?_
 refine then_n ?_
 refine rt ?_
 refine fin_r ?_
 have e := H.look (b := q)
 have e2 : rvN (rvN (rvN b 0 4 2) 4 2 1) 6 2 1 = permB b := rv_perm (by omega)
 rw [e2] at e
 exact ⟨q, cp9, junk, rfl, H.ge, e, H.fr⟩
end Go.Proofs.YthcaejaaalkglaaDoor.X
/- Walks of functions, printed by a program of this claim. -/
namespace Go.Proofs.YthcaejaaalkglaaDoor.X
set_option linter.unusedVariables false
set_option linter.unusedSimpArgs false
open Go Go.RowKit
namespace PF
theorem ag130_16 : aggB Tryd.prog 130 16 = true := by kernel_rfl
theorem ze130 : zeroL Tryd.prog 130 = some [.int .u8 0, .int .u8 0, .int .u8 0, .int .u8 0, .int .u8 0, .int .u8 0, .int .u8 0, .int .u8 0, .int .u8 0, .int .u8 0, .int .u8 0, .int .u8 0, .int .u8 0, .int .u8 0, .int .u8 0, .int .u8 0] := by kernel_rfl
end PF
open PF
set_option maxRecDepth 100000 in
set_option maxHeartbeats 1000000 in
theorem c_fromBytes (w : World) (B : Option Addr) (n c : Nat) (b : List UInt8) (hR : RB w B n b) (hn : n = 16) : Calls Tryd.prog 61 #[.slice B n c] w (Ret fun v w' => v = .tuple #[.agg (Bs b).toArray, .nilIface] ∧ Fr [] w w') := by
 refine enterR [.cell 2 130, .tmp 3] Tryd.func61 rfl rfl rfl rfl ?_
 have H := SH.nil w
 have hRl := hR.1
 refine sq ?_
 refine rg ?_
 refine al H ze130 rfl ?_
 clear H; intro b1 w1 hb1 H _
 refine asg (v := .nilIface) rfl rfl ?_
 refine nl ?_
 refine then_n ?_
 refine sq ?_
 refine sq ?_
 refine rg ?_
 refine mv (v := .slice _ _ _) rfl rfl ?_
 refine lnS rfl Tryd.underlying30 rfl ?_
 refine neq rfl rfl rfl ?_
 refine nl ?_
 refine then_n ?_
 refine cF rfl (by omega) ?_
 refine sk ?_
 refine then_n ?_
 refine sq ?_
 refine rg ?_
 refine slY rfl Tryd.underlying130 sz5_1 (by first | trivial | omega | (simp; omega)) rfl ?_
 refine mv (v := .slice _ _ _) rfl rfl ?_
 replace H := sh_cells0 (cs' := Bs (List.replicate 16 0)) H rfl
 refine cpP (bs := b) H rfl rfl Tryd.underlying30 sz5_1 (hR.keep H.fr) (by omega) (by decide) (by omega) rfl ?_
 clear H; intro w2 H _ hlen
 replace H := sh_cells0 H (congrArg Bs (pAt_all (by rw [hRl, hn]; rfl)))
 refine nl ?_
 refine then_n ?_
 refine sq ?_
 refine rg ?_
 refine la (vs := Bs b) H rfl ag130_16 (by rw [Bs_length, hRl, hn]) (by rw [List.drop_zero, List.take_of_length_le (by rw [Bs_length]; omega)]) rfl ?_
 refine sa (cs' := Bs b) H rfl rfl ag130_16 (by rw [Bs_length, hRl, hn]) (List.all_eq_true.2 Bs_one) (by rw [Bs_length, hRl, hn]; decide) (by omega) (by rw [List.take_zero, List.nil_append, List.drop_of_length_le (by rw [Bs_length]; omega), List.append_nil]) ?_
 clear H; intro w91 H _
 refine asg (v := .nilIface) rfl rfl ?_
 refine nl ?_
 refine then_n ?_
 refine rt ?_
 refine finR_r ?_
 exact ⟨[_, _], ⟨finC rfl (H.look (b := b1)) (by rw [Bs_length, hRl, hn]; exact ag130_16), rfl, trivial⟩, rfl, H.fr⟩
set_option maxRecDepth 100000 in
set_option maxHeartbeats 1000000 in
theorem c_uuString (w : World) (u : List UInt8) (hu : u.length = 16) : Calls Tryd.prog 70 #[.agg (Bs u).toArray] w (Ret fun v w' => v = .string (str (sT u)) ∧ Fr [] w w') := by
 refine enter (fun ρ => ρ 2) Tryd.func70 rfl rfl rfl (res1 rfl) ?_
 have H := SH.nil w
 refine sq ?_
 refine rg ?_
 refine bx (v := .agg _) H rfl rfl rfl ?_
 clear H; intro b1 w1 hb1 H _
 refine asg (v := .string _) rfl rfl ?_
 refine nl ?_
 refine then_n ?_
 refine sq ?_
 refine rg ?_
 refine mkB H rfl rfl Tryd.underlying30 mi5 (by omega) (by omega) (by omega) (by omega) rfl ?_
 clear H; intro b2 w2 hb2 H _
 refine asg (v := .slice _ _ _) rfl rfl ?_
 refine nl ?_
 refine then_n ?_
 refine sq ?_
 refine sq ?_
 refine rg ?_
 refine la (vs := Bs u) H rfl ag130_16 (by simp [hu]) (by rw [List.drop_zero, List.take_of_length_le (by simp [hu])]) rfl ?_
 refine mv (v := .int .i64 _) rfl rfl ?_
 refine nl ?_
 refine then_n ?_
 refine bk ?_
 refine lpM (α := Nat × Addr × Nat × Nat) [3, 4, 5, 8, 9, 10, 11, 12, 13, 14, 15, 16, 17, 18, 19, 20, 21, 22, 23, 24, 25, 26, 27, 28, 29, 30, 31, 32, 33, 34, 35, 36, 37, 38] (fun (i, a, k, cap) => [(3, .slice (some a) k cap), (8, .int .i64 (i : Int))]) (fun (i, a, k, cap) w' => i ≤ 16 ∧ k ≤ 3 * i ∧ OR 5 1 w [] w' [⟨b1, .cells (Bs u).toArray 130 (0, 0), true⟩] (some a) k cap (Bs (sTp u i))) (fun (i, a, k, cap) => 16 - i) (0, ⟨b2, 0, none⟩, 0, 36) ?_ (fCX (fCX (fN _))) ?_
 ·exact ⟨by omega, by omega, OR.made (n := 0) (cur := Bs (List.replicate 36 0)) H (by omega) (by decide) rfl⟩
 ·rintro ⟨i, a, k, cap⟩ ρx w3 ⟨hi, hk, O⟩
  have H := O.sh
  refine sq ?_
  refine rg ?_
  refine lss rfl rfl rfl ?_
  refine nl ?_
  refine then_n ?_
  refine sq ?_
  refine cd rfl (fun hc1 => ?_) (fun hc1 => ?_)
  ·refine sk ?_
   refine then_n ?_
   refine sq ?_
   refine bk ?_
   refine sq ?_
   refine rg ?_
   refine mv (v := .int .i64 _) rfl rfl ?_
   refine ixV rfl rfl Tryd.underlying130 sc5 sz5_1 (by omega) (Bs_get (i := i) (by omega)) rfl ?_
   refine asg (v := .int .i64 _) rfl rfl ?_
   refine asg (v := .int .u8 _) rfl rfl ?_
   refine nl ?_
   refine then_n ?_
   refine ctM (α := Addr × Nat × Nat) [3, 12, 13, 14, 15, 16, 17, 18, 19, 20, 21, 22, 23, 24, 25, 26, 27, 28] (fun (a, k, cap) => [(3, .slice (some a) k cap)]) (fun (a, k, cap) w' => k ≤ 3 * i + 1 ∧ OR 5 1 w [] w' [⟨b1, .cells (Bs u).toArray 130 (0, 0), true⟩] (some a) k cap (Bs (sTp u i ++ if dashT i then [45] else []))) ?_ ?_
   ·refine ctM (α := Bool) [12, 13, 14, 15, 16, 17, 18, 19, 20, 21, 22, 23, 24, 25] (fun q => [(25, .bool q)]) (fun q w' => q = dashT i ∧ OR 5 1 w [] w' [⟨b1, .cells (Bs u).toArray 130 (0, 0), true⟩] (some a) k cap (Bs (sTp u i))) ?_ ?_
    ·refine rg ?_
     refine mv (v := .int .i64 _) rfl rfl ?_
     refine eql rfl rfl rfl ?_
     refine mv (v := .bool _) rfl rfl ?_
     refine spd (t := 14) rfl (fun hg1 => ?_) (fun hg1 => ?_)
     ·refine gn rfl rfl ?_
      refine gn rfl rfl ?_
      refine pkT (v := .bool _) rfl rfl rfl ?_
      refine mv (v := .bool _) rfl rfl ?_
      refine gn rfl rfl ?_
      refine gn rfl rfl ?_
      refine pkT (v := .bool _) rfl rfl rfl ?_
      refine mv (v := .bool _) rfl rfl ?_
      refine gn rfl rfl ?_
      refine gn rfl rfl ?_
      refine pkT (v := .bool _) rfl rfl rfl ?_
      refine nl ?_
      refine then_n ?_
      exact ⟨true, ⟨dashT_t (by omega), O⟩, (fCX (fN _)), agX⟩
     ·refine gy rfl ?_
      refine mv (v := .int .i64 _) rfl rfl ?_
      refine gy rfl ?_
      refine eql rfl rfl rfl ?_
      refine pkF (v := .bool _) rfl rfl rfl ?_
      refine mv (v := .bool _) rfl rfl ?_
      refine spd (t := 18) rfl (fun hg2 => ?_) (fun hg2 => ?_)
      ·refine gn rfl rfl ?_
       refine gn rfl rfl ?_
       refine pkT (v := .bool _) rfl rfl rfl ?_
       refine mv (v := .bool _) rfl rfl ?_
       refine gn rfl rfl ?_
       refine gn rfl rfl ?_
       refine pkT (v := .bool _) rfl rfl rfl ?_
       refine nl ?_
       refine then_n ?_
       exact ⟨true, ⟨dashT_t (by omega), O⟩, (fCX (fN _)), agX⟩
      ·refine gy rfl ?_
       refine mv (v := .int .i64 _) rfl rfl ?_
       refine gy rfl ?_
       refine eql rfl rfl rfl ?_
       refine pkF (v := .bool _) rfl rfl rfl ?_
       refine mv (v := .bool _) rfl rfl ?_
       refine spd (t := 22) rfl (fun hg3 => ?_) (fun hg3 => ?_)
       ·refine gn rfl rfl ?_
        refine gn rfl rfl ?_
        refine pkT (v := .bool _) rfl rfl rfl ?_
        refine nl ?_
        refine then_n ?_
        exact ⟨true, ⟨dashT_t (by omega), O⟩, (fCX (fN _)), agX⟩
       ·refine gy rfl ?_
        refine mv (v := .int .i64 _) rfl rfl ?_
        refine gy rfl ?_
        refine eql rfl rfl rfl ?_
        refine pkF (v := .bool _) rfl rfl rfl ?_
        refine nl ?_
        refine then_n ?_
        exact ⟨_, ⟨dashT_d hg1 hg2 hg3, O⟩, (fCX (fN _)), agX⟩
    ·rintro q ρx w4 ⟨hq, O⟩
     have H := O.sh
     refine cn rfl (fun hc2 => ?_) (fun hc2 => ?_)
     ·refine rg ?_
      refine mv (v := .slice _ _ _) rfl rfl ?_
      refine bsl (sz := 1) (out := ?o1) H Tryd.underlying30 ze5 sz5_1 (by decide) ?f1 rfl ?_
      case f1 =>
       refine FS.one (v := .int .u8 _) rfl rfl rfl (by first | decide | simp) ?_
       exact FS.nil
      intro b3 w5 hb3 H1 F; replace O := O.new F hb3 H1.look; clear H H1 F; have H := O.sh
      refine apS (zs := [.int .u8 0]) (Bs ([45])) O rfl rfl Tryd.underlying30 ri5 (by first | rfl | simp) (cells_look H.look) Bs_one (by simp) (by omega) (by unfold maxLen; omega) rfl ?_
      clear O H; intro a9 cp9 w6 O
      have H := O.sh
      refine asg (v := .slice _ _ _) rfl rfl ?_
      refine nl ?_
      refine then_n ?_
      exact ⟨(a9, k + 1, cp9), ⟨by omega, by rw [← hq, hc2]; exact Bs_app _ _ ▸ O.subX⟩, (fCX (fN _)), agX⟩
     ·refine sk ?_
      refine then_n ?_
      exact ⟨(a, k, cap), ⟨by omega, by rw [← hq, hc2]; simpa using O⟩, (fCX (fN _)), agX⟩
   ·rintro ⟨a, k, cap⟩ ρx w7 ⟨hk2, O⟩
    have H := O.sh
    have hcu := UInt8.toNat_lt (u.getD i 0)
    refine dr (by kernel_rfl) ?_
    have H := H.drew
    replace O := O.drew
    refine hold (fun w' => SH w [] w' [⟨b1, .cells (Bs u).toArray 130 (0, 0), true⟩]) [] ?_
    refine tk (i := 0) rfl (by kernel_rfl) rfl (H.subX) (fun w' H => r_mv (v := .slice _ _ _) rfl) ?_
    refine tk (i := 1) rfl (by kernel_rfl) rfl (H.subX) (fun w' H => r_mv (v := .int .u8 _) rfl) ?_
    refine tk (i := 2) rfl (by kernel_rfl) rfl (H.subX) (fun w' H => r_shrK (s := 4) (p := 16) rfl rfl (by decide) (by decide) rfl) ?_
    refine tk (i := 3) rfl (by kernel_rfl) rfl (H.subX) (fun w' H => r_ixS (bs := hexC) rfl rfl Tryd.underlying9 (by have := UInt8.toNat_lt (u.getD i 0); rw [show hexC.length = 16 from rfl]; omega)) ?_
    refine tk (i := 4) rfl (by kernel_rfl) rfl (H.subX) (fun w' H => r_mv (v := .int .u8 _) rfl) ?_
    refine tk (i := 5) rfl (by kernel_rfl) rfl (H.subX) (fun w' H => r_band (c := (((u.getD i 0).toNat % 16 : Nat) : Int)) rfl rfl (and15 (UInt8.toNat_lt _))) ?_
    refine tk (i := 6) rfl (by kernel_rfl) rfl (H.subX) (fun w' H => r_ixS (bs := hexC) rfl rfl Tryd.underlying9 (by rw [show hexC.length = 16 from rfl]; omega)) ?_
    refine fk (i := 7) (by kernel_rfl) rfl rfl rfl ?_
    refine bsl (sz := 1) (out := Bs [hexC.getD ((u.getD i 0).toNat / 16) 0, hexC.getD ((u.getD i 0).toNat % 16) 0]) H Tryd.underlying30 ze5 sz5_1 (by decide) (by
     refine FS.one (v := .int .u8 _) rfl rfl rfl (by decide) ?_
     refine FS.one (v := .int .u8 _) rfl rfl rfl (by first | decide | simp) ?_
     exact FS.nil) rfl ?_
    intro b10 w95 hb10 H1 F; replace O := O.new F hb10 H1.look; clear H H1 F; have H := O.sh
    refine nl ?_
    refine then_n ?_
    refine ⟨H.subX, ?_⟩
    refine fk (i := 8) (by kernel_rfl) rfl rfl rfl ?_
    refine apS (zs := [.int .u8 0]) (Bs ([hexC.getD ((u.getD i 0).toNat / 16) 0, hexC.getD ((u.getD i 0).toNat % 16) 0])) O rfl rfl Tryd.underlying30 ri5 (by first | rfl | simp) (cells_look H.look) Bs_one (by simp) (by omega) (by unfold maxLen; omega) rfl ?_
    clear O H; intro a9 cp9 w8 O
    have H := O.sh
    refine nl ?_
    refine then_n ?_
    refine ⟨H.subX, ?_⟩
    refine tk (i := 9) rfl (by kernel_rfl) rfl (H.subX) (fun w' H => r_asg (v := .slice _ _ _) rfl) ?_
    refine da (by kernel_rfl) ?_
    refine in_n ?_
    refine then_n ?_
    refine rg ?_
    refine add rfl rfl (by first | exact w_i64 (by omega) | exact w_i64 (rng_i64 _) | rfl) rfl ?_
    refine mv (v := .int .i64 _) rfl rfl ?_
    refine nl ?_
    refine loop_n ?_
    exact ⟨(i + 1, a9, k + 2, cp9), (by (try dsimp only); omega), ⟨by omega, by omega, by rw [sTp_succ, sTk, ← List.append_assoc]; exact Bs_app _ _ ▸ O.subX⟩, (fCX (fCX (fN _))), agX⟩
  ·refine ex ?_
   refine then_e ?_
   refine loop_e ?_
   refine in_hit rfl ?_
   refine then_n ?_
   refine sq ?_
   refine rg ?_
   refine mv (v := .slice _ _ _) rfl rfl ?_
   refine cvBS rfl (by exact O.rb) Tryd.underlying30 Tryd.underlying5 Tryd.underlying9 rfl ?_
   refine asg (v := .string _) rfl rfl ?_
   refine nl ?_
   refine then_n ?_
   refine rt ?_
   refine fin_r ?_
   obtain rfl : i = 16 := by omega
   exact ⟨rfl, O.sh.fr⟩
set_option maxRecDepth 100000 in
set_option maxHeartbeats 1000000 in
theorem c_upper (w : World) (s : List UInt8) (hs : s.length ≤ 2147483647) : Calls Tryd.prog 69 #[.string (str s)] w (Ret fun v w' => v = .string (str (upL s)) ∧ Fr [] w w') := by
 refine enter (fun ρ => ρ 2) Tryd.func69 rfl rfl rfl (res1 rfl) ?_
 have H := SH.nil w
 refine sq ?_
 refine rg ?_
 refine asg (v := .string _) rfl rfl ?_
 refine nl ?_
 refine then_n ?_
 refine sq ?_
 refine rg ?_
 refine mv (v := .string _) rfl rfl ?_
 refine cvSB H rfl Tryd.underlying9 Tryd.underlying30 Tryd.underlying5 rfl ?_
 clear H; intro b1 cp1 w1 hb1 hcp1 H _
 refine asg (v := .slice _ _ _) rfl rfl ?_
 refine nl ?_
 refine then_n ?_
 refine sq ?_
 refine sq ?_
 refine rg ?_
 refine mv (v := .slice _ _ _) rfl rfl ?_
 refine lnS rfl Tryd.underlying30 rfl ?_
 refine mv (v := .int .i64 _) rfl rfl ?_
 refine nl ?_
 refine then_n ?_
 refine bk ?_
 refine lpM (α := Nat) [4, 5, 10, 11, 12, 13, 14, 15, 16, 17, 18, 19, 20, 21, 22, 23, 24, 25, 26] (fun i => [(10, .int .i64 (i : Int))]) (fun i w' => i ≤ s.length ∧ SH w [] w' [⟨b1, .cells (Bs (upP s i ++ List.replicate (cp1 - s.length) 0)).toArray 5 (cp1, cp1 + 1), true⟩]) (fun i => s.length - i) 0 ?_ (fCX (fN _)) ?_
 ·exact ⟨by omega, by rw [upP_zero]; exact H⟩
 ·rintro i ρx w2 ⟨hi, H⟩
  have hul := upP_len s i
  refine sq ?_
  refine rg ?_
  refine lss rfl rfl rfl ?_
  refine nl ?_
  refine then_n ?_
  refine sq ?_
  refine cd rfl (fun hc1 => ?_) (fun hc1 => ?_)
  ·refine sk ?_
   refine then_n ?_
   refine sq ?_
   refine bk ?_
   refine sq ?_
   refine rg ?_
   refine mv (v := .int .i64 _) rfl rfl ?_
   refine iaN (i) rfl rfl Tryd.underlying30 sz5_1 (by omega) (by omega) rfl ?_
   refine ldbN (s.getD i 0) H rfl sc5 (up_at (by omega)) rfl ?_
   refine asg (v := .int .i64 _) rfl rfl ?_
   refine asg (v := .int .u8 _) rfl rfl ?_
   refine nl ?_
   refine then_n ?_
   refine sq ?_
   refine rg ?_
   refine mv (v := .int .u8 _) rfl rfl ?_
   refine geq rfl rfl rfl ?_
   refine mv (v := .bool _) rfl rfl ?_
   refine spd (t := 17) rfl (fun hg1 => ?_) (fun hg1 => ?_)
   ·refine gy rfl ?_
    refine mv (v := .int .u8 _) rfl rfl ?_
    refine gy rfl ?_
    refine leq rfl rfl rfl ?_
    refine pkT (v := .bool _) rfl rfl rfl ?_
    refine nl ?_
    refine then_n ?_
    refine cd rfl (fun hc2 => ?_) (fun hc2 => ?_)
    ·refine rg ?_
     refine mv (v := .slice _ _ _) rfl rfl ?_
     refine mv (v := .int .i64 _) rfl rfl ?_
     refine mv (v := .int .u8 _) rfl rfl ?_
     refine sub rfl rfl (by first | exact w_u8 (by omega) | exact w_u8 (rng_u8 _) | exact m_u8 _) rfl ?_
     refine iaN (i) rfl rfl Tryd.underlying30 sz5_1 (by omega) (by omega) rfl ?_
     refine stb H rfl rfl sc5 (by omega) (by first | decide | (simp only [List.length_set, List.length_cons, List.length_nil, List.length_replicate, List.length_append, Bs_length]; omega) | omega) (by omega) ?_
     clear H; intro w3 H _
     refine nl ?_
     refine in_n ?_
     refine then_n ?_
     refine rg ?_
     refine add rfl rfl (by first | exact w_i64 (by omega) | exact w_i64 (rng_i64 _) | rfl) rfl ?_
     refine mv (v := .int .i64 _) rfl rfl ?_
     refine nl ?_
     refine loop_n ?_
     exact ⟨i + 1, (by (try dsimp only); omega), ⟨by omega, sh_cells0 H (congrArg Bs (up_put (by omega) (by omega)))⟩, (fCX (fN _)), agX⟩
    ·refine sk ?_
     refine in_n ?_
     refine then_n ?_
     refine rg ?_
     refine add rfl rfl (by first | exact w_i64 (by omega) | exact w_i64 (rng_i64 _) | rfl) rfl ?_
     refine mv (v := .int .i64 _) rfl rfl ?_
     refine nl ?_
     refine loop_n ?_
     exact ⟨i + 1, (by (try dsimp only); omega), ⟨by omega, by rw [upP_same (by omega) (by omega)]; exact H⟩, (fCX (fN _)), agX⟩
   ·refine gn rfl rfl ?_
    refine gn rfl rfl ?_
    refine pkF (v := .bool _) rfl rfl rfl ?_
    refine nl ?_
    refine then_n ?_
    refine cbF rfl rfl ?_
    refine sk ?_
    refine in_n ?_
    refine then_n ?_
    refine rg ?_
    refine add rfl rfl (by first | exact w_i64 (by omega) | exact w_i64 (rng_i64 _) | rfl) rfl ?_
    refine mv (v := .int .i64 _) rfl rfl ?_
    refine nl ?_
    refine loop_n ?_
    exact ⟨i + 1, (by (try dsimp only); omega), ⟨by omega, by rw [upP_same (by omega) (by omega)]; exact H⟩, (fCX (fN _)), agX⟩
  ·refine ex ?_
   refine then_e ?_
   refine loop_e ?_
   refine in_hit rfl ?_
   refine then_n ?_
   refine sq ?_
   refine rg ?_
   refine mv (v := .slice _ _ _) rfl rfl ?_
   refine cvBS rfl (by have e := RB.of (b := b1) (o := 0) (n := s.length) H (by simp; omega); rw [up_fin (by omega)] at e; exact e) Tryd.underlying30 Tryd.underlying5 Tryd.underlying9 rfl ?_
   refine asg (v := .string _) rfl rfl ?_
   refine nl ?_
   refine then_n ?_
   refine rt ?_
   refine fin_r ?_
   exact ⟨rfl, H.fr⟩
end Go.Proofs.YthcaejaaalkglaaDoor.X
/- The laws of single operations: closures, type assertions. -/
namespace Go.Proofs.YthcaejaaalkglaaDoor.X
set_option linter.unusedVariables false
open Go Go.RowKit
theorem SH.ne_of {w0 w : World} {S : List Nat} {L : List Ent} {x : Ent} (H : SH w0 S w (x :: L)) (hx : x.m = true) {y : Ent} (hy : y ∈ L) : x.b ≠ y.b := by
 obtain ⟨_, _, a, _⟩ := H
 exact (List.pairwise_cons.1 a).1 y hy (by simp [hx])
theorem SH.ge1 {w0 w : World} {q : Nat} {L : List Ent} {x : Ent} (H : SH w0 [q] w (x :: L)) (hx : x.m = true) {y : Ent} (hy : y ∈ L) (hq : y.b = q) : w0.heap.size ≤ x.b := by
 obtain ⟨f, g, a, m⟩ := H
 have h1 := (List.pairwise_cons.1 a).1 y hy (by simp [hx])
 exact (m x (.head _) hx).resolve_left (by simp; exact hq ▸ h1)
theorem SH.put2 {w0 w w' : World} {S : List Nat} {L L' : List Ent} {b : Nat} {o' : Obj} (h : SH w0 S w L) [t : Turn L b o' L'] (f : Fr [b] w w') (ho : w'.heap[b]? = some o') : SH w0 S w' L' ∧ (∀ y ∈ L', y.b < w.heap.size) ∧ w0.heap.size ≤ w.heap.size := by
 refine ⟨h.put f ho, ?_, h.size⟩
 obtain ⟨l, r, o, rfl, rfl⟩ := t.at'
 intro y hy
 rcases List.mem_append.1 hy with hy | hy
 ·exact lt_of_at (h.get y (by simp [hy]))
 ·rcases List.mem_cons.1 hy with rfl | hy
  ·exact lt_of_at (h.get ⟨b, o, true⟩ (by simp))
  ·exact lt_of_at (h.get y (by simp [hy]))
theorem SH.add {w0 w' : World} {S : List Nat} {L : List Ent} {n p : Nat} {o : Obj} (h : SH w0 S w' L) (hl : (∀ y ∈ L, y.b < n) ∧ w0.heap.size ≤ n) (hp : n ≤ p) (ho : w'.heap[p]? = some o) : SH w0 S w' (⟨p, o, true⟩ :: L) := by
 refine ⟨h.fr, ?_, ?_, ?_⟩
 ·intro x hx
  rcases List.mem_cons.1 hx with rfl | hx
  ·exact ho
  ·exact h.get x hx
 ·refine List.Pairwise.cons (fun y hy _ => ?_) h.ap
  have := hl.1 y hy
  simp only
  omega
 ·intro x hx hm
  rcases List.mem_cons.1 hx with rfl | hx
  ·exact .inr (Nat.le_trans hl.2 hp)
  ·exact h.mu x hx hm
theorem two_res {t : TypeId} {v : Value} {G : Bool} {X : Nat → Prop} (h : (G = true ∧ ∃ p, v = .tuple #[.pointer (some ⟨p, 0, none⟩), .nilIface] ∧ X p) ∨ (G = false ∧ ∃ e, v = .tuple #[.pointer none, .iface t e])) :
  ∃ A e, v = .tuple #[.pointer A, e] ∧ Ifc e ∧ isIf e = !G ∧ (G = true → ∃ p, A = some ⟨p, 0, none⟩ ∧ X p) := by
 rcases h with ⟨hg, p, rfl, hx⟩ | ⟨hg, e, rfl⟩
 ·exact ⟨_, _, rfl, .inl rfl, by rw [hg]; rfl, fun _ => ⟨p, rfl, hx⟩⟩
 ·exact ⟨_, _, rfl, .inr ⟨_, _, rfl⟩, by rw [hg]; rfl, fun h => by rw [hg] at h; cases h⟩
section steps
variable {P : Program} {n : Nat} {ops : Array Oper} {Q : Post} {rest : List Oper} {ρ : Env} {w : World} {ty : TypeId} {pos : String} {af : Array Edge} {d : Nat}
theorem r_eqlIG {t u : TypeId} {ms : Array (String × TypeId)} {x : Operand} {e : Value} {dd : Option Nat} {gg : Option (Nat × Bool)} (hx : ev ρ x = e) (hu : P.underlying t = some (.interface ms)) (he : Ifc e) : (execOp (ev ρ) ⟨dd, .binOp .eql t x (.const .nilIface) u, ty, pos, af, gg⟩).run P w = .ok (.value (.bool (!isIf e))) w := by
 rcases he with rfl | ⟨s, v, rfl⟩
 ·exact r_eqlI0 hx hu
 ·exact r_eqlI1 hx hu
theorem r_iBN {t e : TypeId} {x i : Operand} {ad : Addr} {len cap sz : Nat} {j : IntKind} {z : Int} {dd : Option Nat} {gg : Option (Nat × Bool)} (ad' : Addr) (hx : ev ρ x = .slice (some ad) len cap) (hi : ev ρ i = .int j z) (hu : P.underlying t = some (.slice e)) (hs : sizeB P e sz = true) (hz : 0 ≤ z ∧ z < len) (ho : ad.add (z.toNat * sz) = ad') : (execOp (ev ρ) ⟨dd, .indexAddr t x i, ty, pos, af, gg⟩).run P w = .ok (.value (.pointer (some ad'))) w := by
 rw [← ho]; exact r_iB hx hi hu hs hz
theorem mkf {fn : Fn} {cs : List Operand} (vs : List Value) (hv : cs.map (ev ρ) = vs) (hn : Nat.blt d n = true) (k : wl P n ops Q rest (upd ρ d (.func fn #[] vs.toArray)) w) : wl P n ops Q (⟨some d, .makeFunc fn #[] cs.toArray, ty, pos, af, none⟩ :: rest) ρ w :=
 val rfl rfl hn (by subst hv; simp [execOp, Instr.makeFunc]) k
theorem run_calld {f : FuncId} {x : Operand} {xs : List Operand} {ts : Array TypeId} {dd : Option Nat} {cs : List Value} (hx : ev ρ x = .func (.func f) #[] cs.toArray) (hf : callable P f = true) :
  (execOp (ev ρ) ⟨dd, .call { callee := .value x, args := xs.toArray, argTypes := ts }, ty, pos, af, none⟩).run P w = .ok (.enter f (xs.map (ev ρ) ++ cs).toArray) w := by
 simp [execOp, resolve, Deferred.ofValue, hx, invoke, run_callFunc hf]
theorem cld {f : FuncId} {x : Operand} {xs : List Operand} {ts : Array TypeId} {cs : List Value} {φ : Value → World → Prop} (hx : ev ρ x = .func (.func f) #[] cs.toArray) (hf : callable P f = true) (hc : Calls P f (xs.map (ev ρ) ++ cs).toArray w (Ret φ)) (hn : Nat.blt d n = true)
  (k : ∀ v w', φ v w' → wl P n ops Q rest (upd ρ d v) w') : wl P n ops Q (⟨some d, .call { callee := .value x, args := xs.toArray, argTypes := ts }, ty, pos, af, none⟩ :: rest) ρ w :=
 enterC rfl rfl hn (run_calld hx hf) hc k
theorem taP {x : Operand} {xt at_ s e : TypeId} {v : Value} (hx : ev ρ x = .iface s v) (hu : P.underlying at_ = some (.pointer e)) (h : s = at_) (hn : Nat.blt d n = true) (k : wl P n ops Q rest (upd ρ d (.tuple #[v, .bool true])) w) : wl P n ops Q (⟨some d, .typeAssert x xt at_ true, ty, pos, af, none⟩ :: rest) ρ w :=
 val rfl rfl hn (by subst h; simp [execOp, hx, Instr.typeAssert, run_underlying hu]) k
theorem yielded_U (a : Act) (j : Nat) (b : Bool) (h : (yieldedE ops (envOf a) j == some b) = false) : (yielded ops a.tmps j == some b) = false := by
 by_cases hy : yielded ops a.tmps j = some b
 ·exfalso
  have : yieldedE ops (envOf a) j = some b := by
   unfold yielded at hy
   unfold yieldedE
   cases hd : (ops[j]?).bind (·.dst) with
   | none => simp [hd] at hy
   | some d =>
    simp only [hd, Option.bind_some] at hy
    simp only [envOf, Array.getD_eq_getD_getElem?]
    cases hq : a.tmps[d]? with
    | none => simp [hq] at hy
    | some v =>
     rw [hq] at hy
     simp only [Option.getD_some]
     cases v <;> simp_all
  rw [this] at h; simp at h
 ·simp [hy]
theorem gnU {op : Op} {ty : TypeId} {pos : String} {af : Array Edge} {d j : Nat} {b : Bool} (h : (yieldedE ops ρ j == some b) = false) (hn : Nat.blt d n = true)
  (k : wl P n ops Q rest (upd ρ d undef) w) : wl P n ops Q (⟨some d, op, ty, pos, af, some (j, b)⟩ :: rest) ρ w := by
 intro a h1 h2 he
 have hy := yielded_U a j b (he ▸ h)
 have hlt : d < n := by simpa [Nat.blt_eq] using hn
 simp only [wpList, Region.wanted, hy]
 rw [if_neg (by simp)]
 exact k _ (by rw [defers_put, h1]) (by rw [size_put, h2]) (by rw [envOf_put _ _ _ (by omega), he])
theorem tknU {i d j m : Nat} {b : Bool} {op : Op} {ty : TypeId} {pos : String} {af : Array Edge} {S : World → Prop} {B : List Nat} {listed listed' : Array Bool} (hi : ops[i]? = some ⟨some d, op, ty, pos, af, some (j, b)⟩)
  (hc : (Region.noSelect ops && Region.free .any ops listed i && (Region.ready .any ops listed).contains i && waits ops B i && !memb i B && Nat.blt d n) = true) (hl : listed.setIfInBounds i true = listed')
  (hS : S w) (hy : (yieldedE ops ρ j == some b) = false) (k : wa P n ops Q S B m listed' (upd ρ d undef) w) : wa P n ops Q S B (m + 1) listed ρ w := by
 intro a h1 h2 he
 simp only [Bool.and_eq_true, Bool.not_eq_true', Nat.blt_eq] at hc
 obtain ⟨⟨⟨⟨⟨c1, c2⟩, c3⟩, c4⟩, c5⟩, c6⟩ := hc
 have hy' := yielded_U a j b (he ▸ hy)
 refine anyB_first hi c1 c4 c5 (fun c a w h => h.2.2.elim) m listed a w (Region.free_spec hi c2) (by simpa using c3) (.inr ⟨by simp [Region.wanted, hy'], rfl⟩) hS ?_
 rw [hl]
 exact k _ (by rw [defers_put, h1]) (by rw [size_put, h2]) (by rw [envOf_put _ _ _ (by omega), he])
end steps
end Go.Proofs.YthcaejaaalkglaaDoor.X
/- Walks of functions, printed by a program of this claim. -/
namespace Go.Proofs.YthcaejaaalkglaaDoor.X
set_option linter.unusedVariables false
set_option linter.unusedSimpArgs false
open Go Go.RowKit
open PF
set_option maxRecDepth 100000 in
set_option maxHeartbeats 1000000 in
theorem c_uint16 (w : World) (B : Option Addr) (n c : Nat) (xs : List UInt8) (hb : RB w B n xs) (hn : n = 2) : Calls Tryd.prog 78 #[.agg #[], .slice B n c] w (Ret fun v w' => v = .int .u16 (leV xs) ∧ Fr [] w w') := by
 refine enter (fun ρ => ρ 4) Tryd.func78 rfl rfl rfl (res1 rfl) ?_
 have H := SH.nil w
 have hbl := hb.1
 obtain ⟨ad, rfl, _⟩ := hb.2 0 (by omega)
 have hx0 := hb.at 0 (by omega)
 have hx1 := hb.at 1 (by omega)
 refine sq ?_
 refine rg ?_
 refine bx (v := .agg _) H rfl rfl rfl ?_
 clear H; intro b1 w1 hb1 H _
 refine asg (v := .int .u16 _) rfl rfl ?_
 refine nl ?_
 refine then_n ?_
 refine sq ?_
 refine rg ?_
 refine mv (v := .slice _ _ _) rfl rfl ?_
 refine iA rfl rfl Tryd.underlying30 sz5_1 (by omega) rfl ?_
 refine lc rfl (by first | assumption | exact H.fr.cell (by assumption) (by simp)) sc5 rfl ?_
 refine nl ?_
 refine then_n ?_
 refine sq ?_
 refine dr (by kernel_rfl) ?_
 have H := H.drew
 refine hold (fun _ => True) [] ?_
 refine tk (i := 0) rfl (by kernel_rfl) rfl trivial (fun _ _ => r_mv (v := .slice _ _ _) rfl) ?_
 refine tk (i := 1) rfl (by kernel_rfl) rfl trivial (fun _ _ => r_iA rfl rfl Tryd.underlying30 sz5_1 (by omega)) ?_
 refine tk (i := 4) rfl (by kernel_rfl) rfl trivial (fun _ _ => r_mv (v := .slice _ _ _) rfl) ?_
 refine tk (i := 5) rfl (by kernel_rfl) rfl trivial (fun _ _ => r_iA rfl rfl Tryd.underlying30 sz5_1 (by omega)) ?_
 refine unfree ?_
 refine holdH H [] ?_
 refine tk (i := 2) rfl (by kernel_rfl) rfl H (fun w' H => r_lc rfl (by first | assumption | exact H.fr.cell (by assumption) (by simp)) sc5) ?_
 refine tk (i := 3) rfl (by kernel_rfl) rfl H (fun w' H => r_cvi rfl rfl Tryd.underlying25 (by first | exact w_u16 (by omega) | exact w_u16 (rng_u16 _) | exact m_u16 _)) ?_
 refine tk (i := 6) rfl (by kernel_rfl) rfl H (fun w' H => r_lc rfl (by first | assumption | exact H.fr.cell (by assumption) (by simp)) sc5) ?_
 refine tk (i := 7) rfl (by kernel_rfl) rfl H (fun w' H => r_cvi rfl rfl Tryd.underlying25 (by first | exact w_u16 (by omega) | exact w_u16 (rng_u16 _) | exact m_u16 _)) ?_
 refine tk (i := 8) rfl (by kernel_rfl) rfl H (fun w' H => r_shlK (s := 8) (p := 256) rfl rfl (by decide) (by decide) (by first | exact w_u16 (by omega) | exact w_u16 (rng_u16 _) | exact m_u16 _)) ?_
 refine tk (i := 9) rfl (by kernel_rfl) rfl H (fun w' H => r_bor rfl rfl rfl) ?_
 refine tk (i := 10) rfl (by kernel_rfl) rfl H (fun w' H => r_asg (v := .int .u16 _) rfl) ?_
 refine da (by kernel_rfl) ?_
 refine then_n ?_
 refine rt ?_
 refine fin_r ?_
 refine ⟨congrArg (Value.int .u16) ?_, H.fr⟩
 have m1 : ((xs.getD 1 0).toNat : Int) * 256 % 65536 = ((xs.getD 1 0).toNat : Int) * 256 := by have := (xs.getD 1 0).toNat_lt; omega
 have e := two_at (cur := xs) (o := 0) (by omega)
 rw [List.drop_zero, List.take_of_length_le (by omega)] at e
 rw [e, ← le16_eq]
 simp only [Nat.zero_add]
 rw [← m1]
 rfl
set_option maxRecDepth 100000 in
set_option maxHeartbeats 1000000 in
theorem c_uint32 (w : World) (B : Option Addr) (n c : Nat) (xs : List UInt8) (hb : RB w B n xs) (hn : n = 4) : Calls Tryd.prog 59 #[.agg #[], .slice B n c] w (Ret fun v w' => v = .int .u32 (leV xs) ∧ Fr [] w w') := by
 refine enter (fun ρ => ρ 4) Tryd.func59 rfl rfl rfl (res1 rfl) ?_
 have H := SH.nil w
 have hbl := hb.1
 obtain ⟨ad, rfl, _⟩ := hb.2 0 (by omega)
 have hx0 := hb.at 0 (by omega)
 have hx1 := hb.at 1 (by omega)
 have hx2 := hb.at 2 (by omega)
 have hx3 := hb.at 3 (by omega)
 refine sq ?_
 refine rg ?_
 refine bx (v := .agg _) H rfl rfl rfl ?_
 clear H; intro b1 w1 hb1 H _
 refine asg (v := .int .u32 _) rfl rfl ?_
 refine nl ?_
 refine then_n ?_
 refine sq ?_
 refine rg ?_
 refine mv (v := .slice _ _ _) rfl rfl ?_
 refine iA rfl rfl Tryd.underlying30 sz5_1 (by omega) rfl ?_
 refine lc rfl (by first | assumption | exact H.fr.cell (by assumption) (by simp)) sc5 rfl ?_
 refine nl ?_
 refine then_n ?_
 refine sq ?_
 refine dr (by kernel_rfl) ?_
 have H := H.drew
 refine hold (fun _ => True) [] ?_
 refine tk (i := 0) rfl (by kernel_rfl) rfl trivial (fun _ _ => r_mv (v := .slice _ _ _) rfl) ?_
 refine tk (i := 1) rfl (by kernel_rfl) rfl trivial (fun _ _ => r_iA rfl rfl Tryd.underlying30 sz5_1 (by omega)) ?_
 refine tk (i := 4) rfl (by kernel_rfl) rfl trivial (fun _ _ => r_mv (v := .slice _ _ _) rfl) ?_
 refine tk (i := 5) rfl (by kernel_rfl) rfl trivial (fun _ _ => r_iA rfl rfl Tryd.underlying30 sz5_1 (by omega)) ?_
 refine tk (i := 10) rfl (by kernel_rfl) rfl trivial (fun _ _ => r_mv (v := .slice _ _ _) rfl) ?_
 refine tk (i := 11) rfl (by kernel_rfl) rfl trivial (fun _ _ => r_iA rfl rfl Tryd.underlying30 sz5_1 (by omega)) ?_
 refine tk (i := 16) rfl (by kernel_rfl) rfl trivial (fun _ _ => r_mv (v := .slice _ _ _) rfl) ?_
 refine tk (i := 17) rfl (by kernel_rfl) rfl trivial (fun _ _ => r_iA rfl rfl Tryd.underlying30 sz5_1 (by omega)) ?_
 refine unfree ?_
 refine holdH H [] ?_
 refine tk (i := 2) rfl (by kernel_rfl) rfl H (fun w' H => r_lc rfl (by first | assumption | exact H.fr.cell (by assumption) (by simp)) sc5) ?_
 refine tk (i := 3) rfl (by kernel_rfl) rfl H (fun w' H => r_cvi rfl rfl Tryd.underlying53 (by first | exact w_u32 (by omega) | exact w_u32 (rng_u32 _) | exact m_u32 _)) ?_
 refine tk (i := 6) rfl (by kernel_rfl) rfl H (fun w' H => r_lc rfl (by first | assumption | exact H.fr.cell (by assumption) (by simp)) sc5) ?_
 refine tk (i := 7) rfl (by kernel_rfl) rfl H (fun w' H => r_cvi rfl rfl Tryd.underlying53 (by first | exact w_u32 (by omega) | exact w_u32 (rng_u32 _) | exact m_u32 _)) ?_
 refine tk (i := 8) rfl (by kernel_rfl) rfl H (fun w' H => r_shlK (s := 8) (p := 256) rfl rfl (by decide) (by decide) (by first | exact w_u32 (by omega) | exact w_u32 (rng_u32 _) | exact m_u32 _)) ?_
 refine tk (i := 9) rfl (by kernel_rfl) rfl H (fun w' H => r_bor rfl rfl rfl) ?_
 refine tk (i := 12) rfl (by kernel_rfl) rfl H (fun w' H => r_lc rfl (by first | assumption | exact H.fr.cell (by assumption) (by simp)) sc5) ?_
 refine tk (i := 13) rfl (by kernel_rfl) rfl H (fun w' H => r_cvi rfl rfl Tryd.underlying53 (by first | exact w_u32 (by omega) | exact w_u32 (rng_u32 _) | exact m_u32 _)) ?_
 refine tk (i := 14) rfl (by kernel_rfl) rfl H (fun w' H => r_shlK (s := 16) (p := 65536) rfl rfl (by decide) (by decide) (by first | exact w_u32 (by omega) | exact w_u32 (rng_u32 _) | exact m_u32 _)) ?_
 refine tk (i := 15) rfl (by kernel_rfl) rfl H (fun w' H => r_bor rfl rfl rfl) ?_
 refine tk (i := 18) rfl (by kernel_rfl) rfl H (fun w' H => r_lc rfl (by first | assumption | exact H.fr.cell (by assumption) (by simp)) sc5) ?_
 refine tk (i := 19) rfl (by kernel_rfl) rfl H (fun w' H => r_cvi rfl rfl Tryd.underlying53 (by first | exact w_u32 (by omega) | exact w_u32 (rng_u32 _) | exact m_u32 _)) ?_
 refine tk (i := 20) rfl (by kernel_rfl) rfl H (fun w' H => r_shlK (s := 24) (p := 16777216) rfl rfl (by decide) (by decide) (by first | exact w_u32 (by omega) | exact w_u32 (rng_u32 _) | exact m_u32 _)) ?_
 refine tk (i := 21) rfl (by kernel_rfl) rfl H (fun w' H => r_bor rfl rfl rfl) ?_
 refine tk (i := 22) rfl (by kernel_rfl) rfl H (fun w' H => r_asg (v := .int .u32 _) rfl) ?_
 refine da (by kernel_rfl) ?_
 refine then_n ?_
 refine rt ?_
 refine fin_r ?_
 refine ⟨congrArg (Value.int .u32) ?_, H.fr⟩
 have m1 : ((xs.getD 1 0).toNat : Int) * 256 % 4294967296 = ((xs.getD 1 0).toNat : Int) * 256 := by have := (xs.getD 1 0).toNat_lt; omega
 have m2 : ((xs.getD 2 0).toNat : Int) * 65536 % 4294967296 = ((xs.getD 2 0).toNat : Int) * 65536 := by have := (xs.getD 2 0).toNat_lt; omega
 have m3 : ((xs.getD 3 0).toNat : Int) * 16777216 % 4294967296 = ((xs.getD 3 0).toNat : Int) * 16777216 := by have := (xs.getD 3 0).toNat_lt; omega
 have e := four_at (cur := xs) (o := 0) (by omega)
 rw [List.drop_zero, List.take_of_length_le (by omega)] at e
 rw [e, ← le32_eq]
 simp only [Nat.zero_add]
 rw [← m1, ← m2, ← m3]
 rfl
set_option maxRecDepth 100000 in
set_option maxHeartbeats 1000000 in
theorem c_uint64 (w : World) (B : Option Addr) (n c : Nat) (xs : List UInt8) (hb : RB w B n xs) (hn : n = 8) : Calls Tryd.prog 60 #[.agg #[], .slice B n c] w (Ret fun v w' => v = .int .u64 (leV xs) ∧ Fr [] w w') := by
 refine enter (fun ρ => ρ 4) Tryd.func60 rfl rfl rfl (res1 rfl) ?_
 have H := SH.nil w
 have hbl := hb.1
 obtain ⟨ad, rfl, _⟩ := hb.2 0 (by omega)
 have hx0 := hb.at 0 (by omega)
 have hx1 := hb.at 1 (by omega)
 have hx2 := hb.at 2 (by omega)
 have hx3 := hb.at 3 (by omega)
 have hx4 := hb.at 4 (by omega)
 have hx5 := hb.at 5 (by omega)
 have hx6 := hb.at 6 (by omega)
 have hx7 := hb.at 7 (by omega)
 refine sq ?_
 refine rg ?_
 refine bx (v := .agg _) H rfl rfl rfl ?_
 clear H; intro b1 w1 hb1 H _
 refine asg (v := .int .u64 _) rfl rfl ?_
 refine nl ?_
 refine then_n ?_
 refine sq ?_
 refine rg ?_
 refine mv (v := .slice _ _ _) rfl rfl ?_
 refine iA rfl rfl Tryd.underlying30 sz5_1 (by omega) rfl ?_
 refine lc rfl (by first | assumption | exact H.fr.cell (by assumption) (by simp)) sc5 rfl ?_
 refine nl ?_
 refine then_n ?_
 refine sq ?_
 refine dr (by kernel_rfl) ?_
 have H := H.drew
 refine hold (fun _ => True) [] ?_
 refine tk (i := 0) rfl (by kernel_rfl) rfl trivial (fun _ _ => r_mv (v := .slice _ _ _) rfl) ?_
 refine tk (i := 1) rfl (by kernel_rfl) rfl trivial (fun _ _ => r_iA rfl rfl Tryd.underlying30 sz5_1 (by omega)) ?_
 refine tk (i := 4) rfl (by kernel_rfl) rfl trivial (fun _ _ => r_mv (v := .slice _ _ _) rfl) ?_
 refine tk (i := 5) rfl (by kernel_rfl) rfl trivial (fun _ _ => r_iA rfl rfl Tryd.underlying30 sz5_1 (by omega)) ?_
 refine tk (i := 10) rfl (by kernel_rfl) rfl trivial (fun _ _ => r_mv (v := .slice _ _ _) rfl) ?_
 refine tk (i := 11) rfl (by kernel_rfl) rfl trivial (fun _ _ => r_iA rfl rfl Tryd.underlying30 sz5_1 (by omega)) ?_
 refine tk (i := 16) rfl (by kernel_rfl) rfl trivial (fun _ _ => r_mv (v := .slice _ _ _) rfl) ?_
 refine tk (i := 17) rfl (by kernel_rfl) rfl trivial (fun _ _ => r_iA rfl rfl Tryd.underlying30 sz5_1 (by omega)) ?_
 refine tk (i := 22) rfl (by kernel_rfl) rfl trivial (fun _ _ => r_mv (v := .slice _ _ _) rfl) ?_
 refine tk (i := 23) rfl (by kernel_rfl) rfl trivial (fun _ _ => r_iA rfl rfl Tryd.underlying30 sz5_1 (by omega)) ?_
 refine tk (i := 28) rfl (by kernel_rfl) rfl trivial (fun _ _ => r_mv (v := .slice _ _ _) rfl) ?_
 refine tk (i := 29) rfl (by kernel_rfl) rfl trivial (fun _ _ => r_iA rfl rfl Tryd.underlying30 sz5_1 (by omega)) ?_
 refine tk (i := 34) rfl (by kernel_rfl) rfl trivial (fun _ _ => r_mv (v := .slice _ _ _) rfl) ?_
 refine tk (i := 35) rfl (by kernel_rfl) rfl trivial (fun _ _ => r_iA rfl rfl Tryd.underlying30 sz5_1 (by omega)) ?_
 refine tk (i := 40) rfl (by kernel_rfl) rfl trivial (fun _ _ => r_mv (v := .slice _ _ _) rfl) ?_
 refine tk (i := 41) rfl (by kernel_rfl) rfl trivial (fun _ _ => r_iA rfl rfl Tryd.underlying30 sz5_1 (by omega)) ?_
 refine unfree ?_
 refine holdH H [] ?_
 refine tk (i := 2) rfl (by kernel_rfl) rfl H (fun w' H => r_lc rfl (by first | assumption | exact H.fr.cell (by assumption) (by simp)) sc5) ?_
 refine tk (i := 3) rfl (by kernel_rfl) rfl H (fun w' H => r_cvi rfl rfl Tryd.underlying28 (by first | exact w_u64 (by omega) | exact w_u64 (rng_u64 _) | exact m_u64 _)) ?_
 refine tk (i := 6) rfl (by kernel_rfl) rfl H (fun w' H => r_lc rfl (by first | assumption | exact H.fr.cell (by assumption) (by simp)) sc5) ?_
 refine tk (i := 7) rfl (by kernel_rfl) rfl H (fun w' H => r_cvi rfl rfl Tryd.underlying28 (by first | exact w_u64 (by omega) | exact w_u64 (rng_u64 _) | exact m_u64 _)) ?_
 refine tk (i := 8) rfl (by kernel_rfl) rfl H (fun w' H => r_shlK (s := 8) (p := 256) rfl rfl (by decide) (by decide) (by first | exact w_u64 (by omega) | exact w_u64 (rng_u64 _) | exact m_u64 _)) ?_
 refine tk (i := 9) rfl (by kernel_rfl) rfl H (fun w' H => r_bor rfl rfl rfl) ?_
 refine tk (i := 12) rfl (by kernel_rfl) rfl H (fun w' H => r_lc rfl (by first | assumption | exact H.fr.cell (by assumption) (by simp)) sc5) ?_
 refine tk (i := 13) rfl (by kernel_rfl) rfl H (fun w' H => r_cvi rfl rfl Tryd.underlying28 (by first | exact w_u64 (by omega) | exact w_u64 (rng_u64 _) | exact m_u64 _)) ?_
 refine tk (i := 14) rfl (by kernel_rfl) rfl H (fun w' H => r_shlK (s := 16) (p := 65536) rfl rfl (by decide) (by decide) (by first | exact w_u64 (by omega) | exact w_u64 (rng_u64 _) | exact m_u64 _)) ?_
 refine tk (i := 15) rfl (by kernel_rfl) rfl H (fun w' H => r_bor rfl rfl rfl) ?_
 refine tk (i := 18) rfl (by kernel_rfl) rfl H (fun w' H => r_lc rfl (by first | assumption | exact H.fr.cell (by assumption) (by simp)) sc5) ?_
 refine tk (i := 19) rfl (by kernel_rfl) rfl H (fun w' H => r_cvi rfl rfl Tryd.underlying28 (by first | exact w_u64 (by omega) | exact w_u64 (rng_u64 _) | exact m_u64 _)) ?_
 refine tk (i := 20) rfl (by kernel_rfl) rfl H (fun w' H => r_shlK (s := 24) (p := 16777216) rfl rfl (by decide) (by decide) (by first | exact w_u64 (by omega) | exact w_u64 (rng_u64 _) | exact m_u64 _)) ?_
 refine tk (i := 21) rfl (by kernel_rfl) rfl H (fun w' H => r_bor rfl rfl rfl) ?_
 refine tk (i := 24) rfl (by kernel_rfl) rfl H (fun w' H => r_lc rfl (by first | assumption | exact H.fr.cell (by assumption) (by simp)) sc5) ?_
 refine tk (i := 25) rfl (by kernel_rfl) rfl H (fun w' H => r_cvi rfl rfl Tryd.underlying28 (by first | exact w_u64 (by omega) | exact w_u64 (rng_u64 _) | exact m_u64 _)) ?_
 refine tk (i := 26) rfl (by kernel_rfl) rfl H (fun w' H => r_shlK (s := 32) (p := 4294967296) rfl rfl (by decide) (by decide) (by first | exact w_u64 (by omega) | exact w_u64 (rng_u64 _) | exact m_u64 _)) ?_
 refine tk (i := 27) rfl (by kernel_rfl) rfl H (fun w' H => r_bor rfl rfl rfl) ?_
 refine tk (i := 30) rfl (by kernel_rfl) rfl H (fun w' H => r_lc rfl (by first | assumption | exact H.fr.cell (by assumption) (by simp)) sc5) ?_
 refine tk (i := 31) rfl (by kernel_rfl) rfl H (fun w' H => r_cvi rfl rfl Tryd.underlying28 (by first | exact w_u64 (by omega) | exact w_u64 (rng_u64 _) | exact m_u64 _)) ?_
 refine tk (i := 32) rfl (by kernel_rfl) rfl H (fun w' H => r_shlK (s := 40) (p := 1099511627776) rfl rfl (by decide) (by decide) (by first | exact w_u64 (by omega) | exact w_u64 (rng_u64 _) | exact m_u64 _)) ?_
 refine tk (i := 33) rfl (by kernel_rfl) rfl H (fun w' H => r_bor rfl rfl rfl) ?_
 refine tk (i := 36) rfl (by kernel_rfl) rfl H (fun w' H => r_lc rfl (by first | assumption | exact H.fr.cell (by assumption) (by simp)) sc5) ?_
 refine tk (i := 37) rfl (by kernel_rfl) rfl H (fun w' H => r_cvi rfl rfl Tryd.underlying28 (by first | exact w_u64 (by omega) | exact w_u64 (rng_u64 _) | exact m_u64 _)) ?_
 refine tk (i := 38) rfl (by kernel_rfl) rfl H (fun w' H => r_shlK (s := 48) (p := 281474976710656) rfl rfl (by decide) (by decide) (by first | exact w_u64 (by omega) | exact w_u64 (rng_u64 _) | exact m_u64 _)) ?_
 refine tk (i := 39) rfl (by kernel_rfl) rfl H (fun w' H => r_bor rfl rfl rfl) ?_
 refine tk (i := 42) rfl (by kernel_rfl) rfl H (fun w' H => r_lc rfl (by first | assumption | exact H.fr.cell (by assumption) (by simp)) sc5) ?_
 refine tk (i := 43) rfl (by kernel_rfl) rfl H (fun w' H => r_cvi rfl rfl Tryd.underlying28 (by first | exact w_u64 (by omega) | exact w_u64 (rng_u64 _) | exact m_u64 _)) ?_
 refine tk (i := 44) rfl (by kernel_rfl) rfl H (fun w' H => r_shlK (s := 56) (p := 72057594037927936) rfl rfl (by decide) (by decide) (by first | exact w_u64 (by omega) | exact w_u64 (rng_u64 _) | exact m_u64 _)) ?_
 refine tk (i := 45) rfl (by kernel_rfl) rfl H (fun w' H => r_bor rfl rfl rfl) ?_
 refine tk (i := 46) rfl (by kernel_rfl) rfl H (fun w' H => r_asg (v := .int .u64 _) rfl) ?_
 refine da (by kernel_rfl) ?_
 refine then_n ?_
 refine rt ?_
 refine fin_r ?_
 refine ⟨congrArg (Value.int .u64) ?_, H.fr⟩
 have m1 : ((xs.getD 1 0).toNat : Int) * 256 % 18446744073709551616 = ((xs.getD 1 0).toNat : Int) * 256 := by have := (xs.getD 1 0).toNat_lt; omega
 have m2 : ((xs.getD 2 0).toNat : Int) * 65536 % 18446744073709551616 = ((xs.getD 2 0).toNat : Int) * 65536 := by have := (xs.getD 2 0).toNat_lt; omega
 have m3 : ((xs.getD 3 0).toNat : Int) * 16777216 % 18446744073709551616 = ((xs.getD 3 0).toNat : Int) * 16777216 := by have := (xs.getD 3 0).toNat_lt; omega
 have m4 : ((xs.getD 4 0).toNat : Int) * 4294967296 % 18446744073709551616 = ((xs.getD 4 0).toNat : Int) * 4294967296 := by have := (xs.getD 4 0).toNat_lt; omega
 have m5 : ((xs.getD 5 0).toNat : Int) * 1099511627776 % 18446744073709551616 = ((xs.getD 5 0).toNat : Int) * 1099511627776 := by have := (xs.getD 5 0).toNat_lt; omega
 have m6 : ((xs.getD 6 0).toNat : Int) * 281474976710656 % 18446744073709551616 = ((xs.getD 6 0).toNat : Int) * 281474976710656 := by have := (xs.getD 6 0).toNat_lt; omega
 have m7 : ((xs.getD 7 0).toNat : Int) * 72057594037927936 % 18446744073709551616 = ((xs.getD 7 0).toNat : Int) * 72057594037927936 := by have := (xs.getD 7 0).toNat_lt; omega
 have e := eight_at (cur := xs) (o := 0) (by omega)
 rw [List.drop_zero, List.take_of_length_le (by omega)] at e
 rw [e, ← le64_eq]
 simp only [Nat.zero_add]
 rw [← m1, ← m2, ← m3, ← m4, ← m5, ← m6, ← m7]
 rfl
end Go.Proofs.YthcaejaaalkglaaDoor.X
/- The reading of tables of GUID partitions, as plain functions of the disk's bytes. -/
namespace Go.Proofs.YthcaejaaalkglaaDoor.X
open Go
set_option linter.unusedVariables false
def pcs (ds : List UInt8) (o n : Nat) : List UInt8 := (ds.drop o).take n
theorem pcs_len {ds : List UInt8} {o n : Nat} (h : o + n ≤ ds.length) : (pcs ds o n).length = n := by simp [pcs]; omega
theorem pcs_pcs {ds : List UInt8} {o n p k : Nat} (h : p + k ≤ n) : pcs (pcs ds o n) p k = pcs ds (o + p) k := by
 unfold pcs
 rw [List.drop_take, List.take_take, List.drop_drop, Nat.min_eq_left (by omega)]
theorem pcs_getD {ds : List UInt8} {o n i : Nat} (h : i < n) : (pcs ds o n).getD i 0 = ds.getD (o + i) 0 := by
 unfold pcs
 simp only [List.getD_eq_getElem?_getD, List.getElem?_take, if_pos h, List.getElem?_drop]
def fld (ds : List UInt8) (o n : Nat) : Int := leV (pcs ds o n)
def zHdr (h : List UInt8) : List UInt8 := pAt h 16 [0, 0, 0, 0]
theorem zHdr_len {h : List UInt8} (hl : h.length = 92) : (zHdr h).length = 92 := by
 unfold zHdr; rw [pAt_len (by simp; omega), hl]
theorem zHdr_getD {h : List UInt8} {i : Nat} (hl : h.length = 92) (hi : i < 92) : (zHdr h).getD i 0 = if 16 ≤ i ∧ i < 20 then 0 else h.getD i 0 := by
 unfold zHdr pAt
 simp only [List.getD_eq_getElem?_getD]
 have ht : (h.take 16).length = 16 := by simp; omega
 by_cases h1 : i < 16
 ·rw [List.append_assoc, List.getElem?_append_left (by omega), if_neg (by omega), List.getElem?_take, if_pos h1]
 ·by_cases h2 : i < 20
  ·rw [if_pos (by omega), List.append_assoc, List.getElem?_append_right (by omega), List.getElem?_append_left (by simp; omega), ht]
   obtain h | h | h | h : i = 16 ∨ i = 17 ∨ i = 18 ∨ i = 19 := by omega
   all_goals subst h; rfl
  ·rw [if_neg (by omega), List.getElem?_append_right (by simp; omega), List.getElem?_drop]
   simp only [List.length_append, ht, List.length_cons, List.length_nil]
   congr 2; omega
def sigOk (ds : List UInt8) (a : Nat) : Bool := decide (pcs ds a 8 = efiL)
def crcOk (ds : List UInt8) (a : Nat) : Bool := decide (crc32 (zHdr (pcs ds a 92)) = fld ds (a + 16) 4)
def fitsB (ds : List UInt8) (s a : Nat) : Bool := !(sigOk ds a) || !(crcOk ds a) || (decide (fld ds (a + 84) 4 = 128) && decide (fld ds (a + 80) 4 ≤ 1024) && decide (fld ds (a + 72) 8 < 2147483648 / s))
theorem fld_rng {ds : List UInt8} {o n : Nat} (h : n ≤ 4) : 0 ≤ fld ds o n ∧ fld ds o n ≤ 4294967295 := by
 have := leV_rng (pcs ds o n)
 have hl : (pcs ds o n).length ≤ 4 := by simp [pcs]; omega
 have h2 : ((256 ^ (pcs ds o n).length : Nat) : Int) ≤ ((256 ^ 4 : Nat) : Int) := Int.ofNat_le.2 (Nat.pow_le_pow_right (by decide) hl)
 rw [Int.natCast_pow, Int.natCast_pow, show ((256 : Nat) : Int) = 256 from rfl, show (256 : Int) ^ 4 = 4294967296 by decide] at h2
 unfold fld; omega
theorem xor0 {x : Int} (h : 0 ≤ x ∧ x ≤ 4294967295) : bits .xor .u32 x 0 = x := by
 have e : bits .xor .u32 x 0 = IntKind.u32.wrap ((BitVec.ofInt 32 x ^^^ BitVec.ofInt 32 0).toNat : Int) := rfl
 have e2 : BitVec.ofInt 32 x ^^^ BitVec.ofInt 32 0 = BitVec.ofInt 32 x := by simp
 rw [e, e2, BitVec.toNat_ofInt, w_u32 (by omega)]; omega
theorem gBit_mul {z : Int} (h : 0 ≤ z ∧ z ≤ 4294967295) : bits .xor .u32 (z / 2) (bits .and .u32 z 1 * 3988292384) = gBit z := by
 unfold gBit
 rcases gAnd1 z with h1 | h1
 ·rw [h1, if_neg (by simp), Int.zero_mul, xor0 (by omega)]
 ·rw [h1, if_pos (by decide), Int.one_mul]
theorem gBit_rng' {z : Int} (h : 0 ≤ z ∧ z ≤ 4294967295) : 0 ≤ gBit z ∧ gBit z ≤ 4294967295 := by
 have := gBit_rng (x := z) (by omega); omega
theorem xor_rng (x y : Int) : 0 ≤ bits .xor .u32 x y ∧ bits .xor .u32 x y ≤ 4294967295 := by
 have := bits_rng .xor (.inl rfl) x y; omega
theorem crc_eq (bs : List UInt8) : bits .xor .u32 4294967295 (gC bs 4294967295) = crc32 bs := rfl
def hdrGood (ds : List UInt8) (a : Nat) : Bool := sigOk ds a && decide (pcs ds (a + 8) 4 = [0, 0, 1, 0]) && decide (pcs ds (a + 12) 4 = [92, 0, 0, 0]) && decide (pcs ds (a + 20) 4 = [0, 0, 0, 0]) && crcOk ds a
theorem zero_len {bs : List UInt8} {o : Nat} (h : o + 92 ≤ bs.length) : (pAt bs (o + 16) [0, 0, 0, 0]).length = bs.length := pAt_len (by simp; omega)
theorem zero_lt {bs : List UInt8} {o p n : Nat} (h : o + 92 ≤ bs.length) (hp : p + n ≤ o + 16) : ((pAt bs (o + 16) [0, 0, 0, 0]).drop p).take n = pcs bs p n := by
 refine List.ext_getElem? fun i => ?_
 simp only [pcs, List.getElem?_take, List.getElem?_drop]
 split
 ·unfold pAt
  rw [List.append_assoc, List.getElem?_append_left (by simp; omega), List.getElem?_take, if_pos (by omega)]
 ·rfl
theorem zero_gt {bs : List UInt8} {o p n : Nat} (h : o + 92 ≤ bs.length) (hp : o + 20 ≤ p) : ((pAt bs (o + 16) [0, 0, 0, 0]).drop p).take n = pcs bs p n := by
 unfold pcs pAt
 rw [List.drop_append]
 simp only [List.length_append, List.length_take, List.length_cons, List.length_nil, List.drop_drop]
 rw [List.drop_of_length_le (by simp; omega), List.nil_append]
 congr 2; omega
theorem zero_all {bs : List UInt8} {o : Nat} (h : o + 92 ≤ bs.length) : ((pAt bs (o + 16) [0, 0, 0, 0]).drop o).take 92 = zHdr (pcs bs o 92) := by
 refine List.ext_getElem? fun i => ?_
 by_cases hi : i < 92
 ·have h1 : i < (((pAt bs (o + 16) [0, 0, 0, 0]).drop o).take 92).length := by rw [List.length_take, List.length_drop, zero_len h]; omega
  have h2 : i < (zHdr (pcs bs o 92)).length := by rw [zHdr_len (pcs_len h)]; omega
  have e1 := zHdr_getD (h := pcs bs o 92) (pcs_len h) hi
  rw [pcs_getD hi] at e1
  rw [List.getD_eq_getElem?_getD, List.getElem?_eq_getElem h2, Option.getD_some] at e1
  rw [List.getElem?_eq_getElem h2, e1, List.getElem?_take, if_pos hi, List.getElem?_drop]
  unfold pAt
  by_cases c1 : i < 16
  ·rw [if_neg (by omega), List.append_assoc, List.getElem?_append_left (by simp; omega), List.getElem?_take, if_pos (by omega), List.getD_eq_getElem?_getD, List.getElem?_eq_getElem (by omega)]; rfl
  ·by_cases c2 : i < 20
   ·have ht : (bs.take (o + 16)).length = o + 16 := by simp; omega
    rw [if_pos (by omega), List.append_assoc, List.getElem?_append_right (by omega), List.getElem?_append_left (by simp; omega), ht, show o + i - (o + 16) = i - 16 by omega]
    obtain h | h | h | h : i = 16 ∨ i = 17 ∨ i = 18 ∨ i = 19 := by omega
    all_goals subst h; rfl
   ·rw [if_neg (by omega), List.getElem?_append_right (by simp; omega), List.getElem?_drop]
    simp only [List.length_append, List.length_take, List.length_cons, List.length_nil]
    rw [show o + 16 + (0 + 1 + 1 + 1 + 1) + (o + i - (min (o + 16) bs.length + (0 + 1 + 1 + 1 + 1))) = o + i by omega, List.getD_eq_getElem?_getD, List.getElem?_eq_getElem (by omega)]; rfl
 ·rw [List.getElem?_eq_none (by simp; omega), List.getElem?_eq_none (by rw [zHdr_len (pcs_len h)]; omega)]
def zAll (xs : List UInt8) : Bool := decide (∀ j, j < xs.length → (xs.getD j 0).toNat = 0)
def rec3 (bs : List UInt8) : Bool := (List.range 3).all fun j => zAll (pcs bs (462 + 16 * j) 16)
theorem rec3_t {bs : List UInt8} (h : ∀ j, j + 1 < 4 → zAll (pcs bs (462 + 16 * j) 16) = true) : rec3 bs = true := List.all_eq_true.2 fun j hj => h j (by have := List.mem_range.1 hj; omega)
theorem rec3_f {bs : List UInt8} {i : Nat} (h1 : 1 ≤ i ∧ i < 4) (h : zAll (pcs bs (446 + 16 * i) 16) = false) : rec3 bs = false := by
 cases hr : rec3 bs with
 | false => rfl
 | true =>
  have := List.all_eq_true.1 hr (i - 1) (List.mem_range.2 (by omega))
  simp only [show 462 + 16 * (i - 1) = 446 + 16 * i by omega, h] at this
  cases this
def protB (bs : List UInt8) (m : Int) : Bool := decide (pcs bs 510 2 = [85, 170]) && rec3 bs && decide ((bs.getD 446 0).toNat = 0) && decide ((bs.getD 450 0).toNat = 238) && decide (fld bs 454 4 = 1) && decide (fld bs 458 4 = m)
theorem zAll_next {xs : List UInt8} {i : Nat} (hz : ∀ j, j < i → (xs.getD j 0).toNat = 0) (h : (xs.getD i 0).toNat = 0) : ∀ j, j < i + 1 → (xs.getD j 0).toNat = 0 := fun j hj => by
 rcases Nat.lt_or_ge j i with h1 | h1
 ·exact hz j h1
 ·obtain rfl : j = i := by omega
  exact h
theorem zRec_next {bs : List UInt8} {i : Nat} (hz : ∀ j, j + 1 < i → zAll (pcs bs (462 + 16 * j) 16) = true) (h : zAll (pcs bs (446 + 16 * i) 16) = true) : ∀ j, j + 1 < i + 1 → zAll (pcs bs (462 + 16 * j) 16) = true := fun j hj => by
 rcases Nat.lt_or_ge (j + 1) i with h1 | h1
 ·exact hz j h1
 ·obtain rfl : i = j + 1 := by omega
  rw [show 462 + 16 * j = 446 + 16 * (j + 1) by omega]
  exact h
def tbC (D : Option Addr) (m c : Nat) (ls ps : Int) (g : List UInt8) (pr rb : Bool) (cnt esz frm crc my oth fst lst : Int) (ini : Bool) : List Value := [.slice D m c, .int .i64 ls, .int .i64 ps, .string (str g), .bool pr, .bool rb, .int .i64 cnt, .int .u32 esz, .int .u64 frm, .int .u32 crc, .int .u64 my, .int .u64 oth, .int .u64 fst, .int .u64 lst, .bool ini]
end Go.Proofs.YthcaejaaalkglaaDoor.X
/- Walks of functions, printed by a program of this claim. -/
namespace Go.Proofs.YthcaejaaalkglaaDoor.X
set_option linter.unusedVariables false
set_option linter.unusedSimpArgs false
open Go Go.RowKit
namespace PF
theorem ca51 : callable Tryd.prog 51 = true := by kernel_rfl
theorem sc30 : scalarB Tryd.prog 30 = true := by kernel_rfl
end PF
open PF
set_option maxRecDepth 100000 in
set_option maxHeartbeats 1000000 in
theorem c_fits1 (w : World) (bD bA : Nat) (B : Option Addr) (L c a k n : Nat) (ds : List UInt8) (hD : w.cell? ⟨bD, 0, none⟩ = some (.slice B L c)) (hA : w.cell? ⟨bA, 0, none⟩ = some (.int .i64 (a : Int))) (hq : RB w B L ds) (hL : L ≤ 1000000000) (hn : a + k + n ≤ L) (hn8 : n ≤ 8) : Calls Tryd.prog 51 #[.int .i64 (k : Int), .int .i64 (n : Int), .pointer (some ⟨bD, 0, none⟩), .pointer (some ⟨bA, 0, none⟩)] w (Ret fun v w' => v = .int .u64 (leV ((ds.drop (a + k)).take n)) ∧ Fr [] w w') := by
 refine enter (fun ρ => ρ 6) Tryd.func51 rfl rfl rfl (res1 rfl) ?_
 have H := SH.nil w
 have hql := hq.1
 refine sq ?_
 refine rg ?_
 refine asg (v := .int .u64 _) rfl rfl ?_
 refine nl ?_
 refine then_n ?_
 refine sq ?_
 refine sq ?_
 refine rg ?_
 refine mv (v := .int .i64 _) rfl rfl ?_
 refine sub rfl rfl (by first | exact w_i64 (by omega) | exact w_i64 (rng_i64 _) | rfl) rfl ?_
 refine asg (v := .int .i64 _) rfl rfl ?_
 refine nl ?_
 refine then_n ?_
 refine bk ?_
 refine lpM (α := Nat) [6, 7, 10, 11, 12, 13, 14, 15, 16, 17, 18, 19, 20, 21, 22, 23, 24, 25] (fun m => [(6, .int .u64 (leV ((ds.drop (a + k + (n - m))).take m))), (7, .int .i64 ((n : Int) - 1 - m))]) (fun m w' => m ≤ n ∧ SH w [] w' []) (fun m => n - m) 0 ?_ (fCX (fCX (fN _))) ?_
 ·exact ⟨by omega, H⟩
 ·rintro m ρx w1 ⟨hm, H⟩
  refine sq ?_
  refine sq ?_
  refine rg ?_
  refine mv (v := .int .i64 _) rfl rfl ?_
  refine geq rfl rfl rfl ?_
  refine nl ?_
  refine then_n ?_
  refine cd rfl (fun hc1 => ?_) (fun hc1 => ?_)
  ·have hl7 := leV_le7 (l := (ds.drop (a + k + (n - m))).take m) (by rw [List.length_take]; omega)
   obtain ⟨ad, rfl, hcell⟩ := hq.2 (a + k + (n - (m + 1))) (by omega)
   have hcell := H.fr.cell hcell (by simp)
   refine sk ?_
   refine then_n ?_
   refine sq ?_
   refine bk ?_
   refine rg ?_
   refine mv (v := .int .u64 _) rfl rfl ?_
   refine shlK (s := 8) (p := 256) rfl rfl (by decide) (by decide) (by first | exact w_u64 (by omega) | exact w_u64 (rng_u64 _) | exact m_u64 _) rfl ?_
   refine lc rfl (by first | assumption | exact H.fr.cell (by assumption) (by simp)) sc30 rfl ?_
   refine lc rfl (by first | assumption | exact H.fr.cell (by assumption) (by simp)) sc3 rfl ?_
   refine mv (v := .int .i64 _) rfl rfl ?_
   refine add rfl rfl (by first | exact w_i64 (by omega) | exact w_i64 (rng_i64 _) | rfl) rfl ?_
   refine mv (v := .int .i64 _) rfl rfl ?_
   refine add rfl rfl (by first | exact w_i64 (by omega) | exact w_i64 (rng_i64 _) | rfl) rfl ?_
   refine iBN (ad.add (a + k + (n - (m + 1)))) rfl rfl Tryd.underlying30 sz5_1 (by omega) (congrArg ad.add (by omega)) rfl ?_
   refine lc rfl (by first | assumption | exact H.fr.cell (by assumption) (by simp)) sc5 rfl ?_
   refine cvi rfl rfl Tryd.underlying28 (by first | exact w_u64 (by omega) | exact w_u64 (rng_u64 _) | exact m_u64 _) rfl ?_
   refine bor (c := leV ((ds.drop (a + k + (n - (m + 1)))).take (m + 1))) rfl rfl (by rw [leV_down (by omega) (by omega)]; exact or64 hl7 (UInt8.toNat_lt _)) rfl ?_
   refine asg (v := .int .u64 _) rfl rfl ?_
   refine nl ?_
   refine in_n ?_
   refine then_n ?_
   refine rg ?_
   refine mv (v := .int .i64 _) rfl rfl ?_
   refine sub rfl rfl (by first | exact w_i64 (by omega) | exact w_i64 (rng_i64 _) | rfl) rfl ?_
   refine asg (v := .int .i64 _) rfl rfl ?_
   refine nl ?_
   refine loop_n ?_
   exact ⟨m + 1, (by (try dsimp only); omega), ⟨by omega, H⟩, (fCX (fCX (fN _))), agX⟩
  ·refine ex ?_
   refine then_e ?_
   refine loop_e ?_
   refine in_hit rfl ?_
   refine then_n ?_
   refine sq ?_
   refine rg ?_
   refine mv (v := .int .u64 _) rfl rfl ?_
   refine asg (v := .int .u64 _) rfl rfl ?_
   refine nl ?_
   refine then_n ?_
   refine rt ?_
   refine fin_r ?_
   obtain rfl : m = n := by omega
   refine ⟨congrArg (Value.int .u64) ?_, H.fr⟩
   rw [Nat.sub_self, Nat.add_zero]
set_option maxRecDepth 100000 in
set_option maxHeartbeats 1000000 in
theorem c_gptFits (w : World) (q L c s a : Nat) (ds : List UInt8) (hq : RB w (some ⟨q, 0, none⟩) L ds) (ha : a + 92 ≤ L) (hL : L ≤ 1000000000) (hc : L ≤ c) (hs : 1 ≤ s ∧ s ≤ 4096) : Calls Tryd.prog 46 #[.slice (some ⟨q, 0, none⟩) L c, .int .i64 (s : Int), .int .i64 (a : Int)] w (Ret fun v w' => v = .bool (fitsB ds s a) ∧ Fr [] w w') := by
 refine enter (fun ρ => ρ 6) Tryd.func46 rfl rfl rfl (res1 rfl) ?_
 have H := SH.nil w
 have hql := hq.1
 have hcr := crc32_rng (zHdr (pcs ds a 92))
 have hzl : (zHdr (pcs ds a 92)).length = 92 := zHdr_len (pcs_len (by omega))
 refine sq ?_
 refine rg ?_
 refine bx (v := .slice _ _ _) H rfl rfl rfl ?_
 clear H; intro b1 w1 hb1 H _
 refine bx (v := .int .i64 _) H rfl rfl rfl ?_
 clear H; intro b2 w2 hb2 H _
 refine asg (v := .bool _) rfl rfl ?_
 refine nl ?_
 refine then_n ?_
 refine sq ?_
 refine sq ?_
 refine rg ?_
 refine ld H rfl sc3 rfl rfl ?_
 refine lss rfl rfl rfl ?_
 refine mv (v := .bool _) rfl rfl ?_
 refine spL (t := 13) (b := false) rfl ?_
 refine gy rfl ?_
 refine ld H rfl sc3 rfl rfl ?_
 refine gy rfl ?_
 refine add rfl rfl (by first | exact w_i64 (by omega) | exact w_i64 (rng_i64 _) | rfl) rfl ?_
 refine gy rfl ?_
 refine ld H rfl sc30 rfl rfl ?_
 refine gy rfl ?_
 refine lnS rfl Tryd.underlying30 rfl ?_
 refine gy rfl ?_
 refine gtr rfl rfl rfl ?_
 refine pkF (v := .bool _) rfl rfl rfl ?_
 refine mv (v := .bool _) rfl rfl ?_
 refine spF (t := 20) rfl (by omega) ?_
 refine gy rfl ?_
 refine ld H rfl sc30 rfl rfl ?_
 refine gy rfl ?_
 refine ld H rfl sc3 rfl rfl ?_
 refine gy rfl ?_
 refine ld H rfl sc3 rfl rfl ?_
 refine gy rfl ?_
 refine add rfl rfl (by first | exact w_i64 (by omega) | exact w_i64 (rng_i64 _) | rfl) rfl ?_
 refine gy rfl ?_
 refine sllhN (0 + a) (8) (c - a) rfl rfl rfl Tryd.underlying30 sz5_1 (by omega) (by omega) rfl ?_
 refine gy rfl ?_
 refine cvBS rfl (by have e := ((hq.keep H.fr).drop (k := a) (by omega)).take (k := 8) (by omega); exact e) Tryd.underlying30 Tryd.underlying5 Tryd.underlying9 rfl ?_
 refine gy rfl ?_
 refine neqT (a := pcs ds a 8) (b := efiL) rfl rfl rfl ?_
 refine pkF (v := .bool _) rfl rfl rfl ?_
 refine nl ?_
 refine then_n ?_
 refine cd rfl (fun hc1 => ?_) (fun hc1 => ?_)
 ·refine sq ?_
  refine rg ?_
  refine asg (v := .bool _) rfl rfl ?_
  refine nl ?_
  refine then_n ?_
  refine rt ?_
  refine then_r ?_
  refine fin_r ?_
  exact ⟨congrArg Value.bool (by unfold fitsB sigOk; rw [decide_eq_false (by assumption)]; rfl), H.fr⟩
 ·refine sk ?_
  refine then_n ?_
  refine sq ?_
  refine rg ?_
  refine mkf [.pointer _, .pointer _] rfl rfl ?_
  refine asg (v := .func _ _ _) rfl rfl ?_
  refine nl ?_
  refine then_n ?_
  refine sq ?_
  refine rg ?_
  refine asg (v := .int .u32 _) rfl rfl ?_
  refine nl ?_
  refine then_n ?_
  refine sq ?_
  refine sq ?_
  refine rg ?_
  refine ld H rfl sc30 rfl rfl ?_
  refine ld H rfl sc3 rfl rfl ?_
  refine ld H rfl sc3 rfl rfl ?_
  refine add rfl rfl (by first | exact w_i64 (by omega) | exact w_i64 (rng_i64 _) | rfl) rfl ?_
  refine sllhN (0 + a) (92) (c - a) rfl rfl rfl Tryd.underlying30 sz5_1 (by omega) (by omega) rfl ?_
  refine lnS rfl Tryd.underlying30 rfl ?_
  refine mv (v := .int .i64 _) rfl rfl ?_
  refine nl ?_
  refine then_n ?_
  refine bk ?_
  refine lpM (α := Nat × Int) [8, 9, 10, 36, 37, 38, 39, 40, 41, 42, 43, 44, 45, 46, 47, 48, 49, 50, 51, 52, 53, 54, 55, 56, 57, 58, 59, 60] (fun (i, y) => [(8, .int .u32 y), (36, .int .i64 (i : Int))]) (fun (i, y) w' => i ≤ 92 ∧ gC (zHdr (pcs ds a 92)) 4294967295 = gC ((zHdr (pcs ds a 92)).drop i) y ∧ SH w [] w' [⟨b2, .cells #[.int .i64 (a : Int)] 3 (0, 0), true⟩, ⟨b1, .cells #[.slice (some ⟨q, 0, none⟩) L c] 30 (0, 0), true⟩]) (fun (i, y) => 92 - i) (0, 4294967295) ?_ (fCX (fCX (fN _))) ?_
  ·exact ⟨by omega, rfl, H⟩
  ·rintro ⟨i, y⟩ ρx w3 ⟨hi, hy, H⟩
   refine sq ?_
   refine rg ?_
   refine lss rfl rfl rfl ?_
   refine nl ?_
   refine then_n ?_
   refine sq ?_
   refine cd rfl (fun hc2 => ?_) (fun hc2 => ?_)
   ·obtain ⟨ad, had, hcell⟩ := hq.2 (a + i) (by omega)
    cases had
    have hcell := H.fr.cell hcell (by simp)
    rw [Addr.add_lit] at hcell
    refine sk ?_
    refine then_n ?_
    refine sq ?_
    refine bk ?_
    refine sq ?_
    refine rg ?_
    refine mv (v := .int .i64 _) rfl rfl ?_
    refine iaN (0 + (a + i)) rfl rfl Tryd.underlying30 sz5_1 (by omega) (by omega) rfl ?_
    refine lc rfl (by first | assumption | exact H.fr.cell (by assumption) (by simp)) sc5 rfl ?_
    refine asg (v := .int .i64 _) rfl rfl ?_
    refine asg (v := .int .u8 _) rfl rfl ?_
    refine nl ?_
    refine then_n ?_
    refine ctM (α := Unit) [10, 41, 42, 43, 44, 45, 46] (fun _u => [(10, .int .u8 (((zHdr (pcs ds a 92)).getD i 0).toNat : Int))]) (fun _u w' => SH w [] w' [⟨b2, .cells #[.int .i64 (a : Int)] 3 (0, 0), true⟩, ⟨b1, .cells #[.slice (some ⟨q, 0, none⟩) L c] 30 (0, 0), true⟩]) ?_ ?_
    ·refine sq ?_
     refine rg ?_
     refine mv (v := .int .i64 _) rfl rfl ?_
     refine geq rfl rfl rfl ?_
     refine mv (v := .bool _) rfl rfl ?_
     refine spd (t := 43) rfl (fun hg3 => ?_) (fun hg3 => ?_)
     ·refine gy rfl ?_
      refine mv (v := .int .i64 _) rfl rfl ?_
      refine gy rfl ?_
      refine lss rfl rfl rfl ?_
      refine pkT (v := .bool _) rfl rfl rfl ?_
      refine nl ?_
      refine then_n ?_
      refine cd rfl (fun hc3 => ?_) (fun hc3 => ?_)
      ·have hz1 : (0 : Int) = (((zHdr (pcs ds a 92)).getD i 0).toNat : Int) := by rw [zHdr_getD (pcs_len (by omega)) (by omega), if_pos (by omega)]; rfl
       refine rg ?_
       refine asg (v := .int .u8 _) rfl rfl ?_
       refine nl ?_
       refine then_n ?_
       exact ⟨(), H, (fCX (fN _)), agX⟩
      ·have hz1 : (((zHdr (pcs ds a 92)).getD i 0).toNat : Int) = ((ds.getD (a + i) 0).toNat : Int) := by rw [zHdr_getD (pcs_len (by omega)) (by omega), if_neg (by omega), pcs_getD (by omega)]
       refine sk ?_
       refine then_n ?_
       exact ⟨(), H, (fCX (fN _)), agX⟩
     ·have hz1 : (((zHdr (pcs ds a 92)).getD i 0).toNat : Int) = ((ds.getD (a + i) 0).toNat : Int) := by rw [zHdr_getD (pcs_len (by omega)) (by omega), if_neg (by omega), pcs_getD (by omega)]
      refine gn rfl rfl ?_
      refine gn rfl rfl ?_
      refine pkF (v := .bool _) rfl rfl rfl ?_
      refine nl ?_
      refine then_n ?_
      refine cbF rfl rfl ?_
      refine sk ?_
      refine then_n ?_
      exact ⟨(), H, (fCX (fN _)), agX⟩
    ·rintro _u ρx w4 H
     refine sq ?_
     refine rg ?_
     refine mv (v := .int .u32 _) rfl rfl ?_
     refine mv (v := .int .u8 _) rfl rfl ?_
     refine cvi rfl rfl Tryd.underlying53 (by first | exact w_u32 (by omega) | exact w_u32 (rng_u32 _) | exact m_u32 _) rfl ?_
     refine bxor rfl rfl rfl rfl ?_
     refine asg (v := .int .u32 _) rfl rfl ?_
     refine nl ?_
     refine then_n ?_
     refine sq ?_
     refine rg ?_
     refine mv (v := .int .i64 _) rfl rfl ?_
     refine nl ?_
     refine then_n ?_
     refine bk ?_
     refine lpM (α := Nat × Int) [8, 51, 52, 53, 54, 55, 56, 57, 58, 59] (fun (j, z) => [(8, .int .u32 z), (51, .int .i64 (j : Int))]) (fun (j, z) w' => j ≤ 8 ∧ gN (8 - j) z = gByte y ((zHdr (pcs ds a 92)).getD i 0) ∧ (0 ≤ z ∧ z ≤ 4294967295) ∧ SH w [] w' [⟨b2, .cells #[.int .i64 (a : Int)] 3 (0, 0), true⟩, ⟨b1, .cells #[.slice (some ⟨q, 0, none⟩) L c] 30 (0, 0), true⟩]) (fun (j, z) => 8 - j) (0, bits .xor .u32 y (((zHdr (pcs ds a 92)).getD i 0).toNat : Int)) ?_ (fCX (fCX (fN _))) ?_
     ·exact ⟨by omega, gByte_eq _ _, xor_rng _ _, H⟩
     ·rintro ⟨j, z⟩ ρx w5 ⟨hj, hz, hzr, H⟩
      have ha1 := gAnd1 z
      refine sq ?_
      refine rg ?_
      refine lss rfl rfl rfl ?_
      refine nl ?_
      refine then_n ?_
      refine sq ?_
      refine cd rfl (fun hc4 => ?_) (fun hc4 => ?_)
      ·refine sk ?_
       refine then_n ?_
       refine sq ?_
       refine bk ?_
       refine rg ?_
       refine mv (v := .int .u32 _) rfl rfl ?_
       refine shrK (s := 1) (p := 2) rfl rfl (by decide) (by decide) rfl rfl ?_
       refine mv (v := .int .u32 _) rfl rfl ?_
       refine band rfl rfl rfl rfl ?_
       refine mul rfl rfl (by first | exact w_u32 (by omega) | exact w_u32 (rng_u32 _) | exact m_u32 _) rfl ?_
       refine bxor (c := gBit z) rfl rfl (gBit_mul hzr) rfl ?_
       refine asg (v := .int .u32 _) rfl rfl ?_
       refine nl ?_
       refine in_n ?_
       refine then_n ?_
       refine rg ?_
       refine add rfl rfl (by first | exact w_i64 (by omega) | exact w_i64 (rng_i64 _) | rfl) rfl ?_
       refine mv (v := .int .i64 _) rfl rfl ?_
       refine nl ?_
       refine loop_n ?_
       exact ⟨(j + 1, gBit z), (by (try dsimp only); omega), ⟨by omega, by rw [← hz, show 8 - j = (8 - (j + 1)) + 1 by omega]; rfl, gBit_rng' hzr, H⟩, (fCX (fCX (fN _))), agX⟩
      ·refine ex ?_
       refine then_e ?_
       refine loop_e ?_
       refine in_hit rfl ?_
       refine in_n ?_
       refine then_n ?_
       refine rg ?_
       refine add rfl rfl (by first | exact w_i64 (by omega) | exact w_i64 (rng_i64 _) | rfl) rfl ?_
       refine mv (v := .int .i64 _) rfl rfl ?_
       refine nl ?_
       refine loop_n ?_
       exact ⟨(i + 1, z), (by (try dsimp only); omega), ⟨by omega, by rw [hy, gC_drop _ i y (by omega), ← hz, show 8 - j = 0 by omega]; rfl, H⟩, (fCX (fCX (fN _))), agX⟩
   ·refine ex ?_
    refine then_e ?_
    refine loop_e ?_
    refine in_hit rfl ?_
    refine then_n ?_
    refine sq ?_
    refine dr (by kernel_rfl) ?_
    have H := H.drew
    refine hold (fun _ => True) [] ?_
    refine tk (i := 0) rfl (by kernel_rfl) rfl trivial (fun _ _ => r_mv (v := .int .u32 _) rfl) ?_
    refine tk (i := 1) rfl (by kernel_rfl) rfl trivial (fun _ _ => r_ucompl (c := crc32 (zHdr (pcs ds a 92))) rfl (by rw [← crc_eq, hy, List.drop_of_length_le (by omega)]; rfl)) ?_
    refine tk (i := 2) rfl (by kernel_rfl) rfl trivial (fun _ _ => r_cvi rfl rfl Tryd.underlying28 (by first | exact w_u64 (by omega) | exact w_u64 (rng_u64 _) | exact m_u64 _)) ?_
    refine tk (i := 3) rfl (by kernel_rfl) rfl trivial (fun _ _ => r_mv (v := .func _ _ _) rfl) ?_
    refine unfree ?_
    refine fo (i := 4) (by kernel_rfl) rfl rfl ?_
    refine cld rfl ca51 (c_fits1 _ b1 b2 (some ⟨q, 0, none⟩) L c a 16 4 ds (cell_at (H.look (b := b1))) (cell_at (H.look (b := b2))) (hq.keep H.fr) (by omega) (by omega) (by decide)) rfl ?_
    rintro _ w6 ⟨rfl, F⟩
    replace H := H.keep F; clear F
    refine nl ?_
    refine then_n ?_
    refine holdH H [] ?_
    refine tk (i := 5) rfl (by kernel_rfl) rfl H (fun w' H => r_neq rfl rfl) ?_
    refine tk (i := 6) rfl (by kernel_rfl) rfl H (fun w' H => r_mv (v := .bool _) rfl) ?_
    refine spad (t := 67) rfl (fun hg4 => ?_) (fun hg4 => ?_)
    ·refine tkn (i := 7) rfl (by kernel_rfl) rfl H rfl ?_
     refine tkn (i := 8) rfl (by kernel_rfl) rfl H rfl ?_
     refine tkn (i := 9) rfl (by kernel_rfl) rfl H rfl ?_
     refine tkn (i := 10) rfl (by kernel_rfl) rfl H rfl ?_
     refine tknU (i := 11) rfl (by kernel_rfl) rfl H rfl ?_
     refine tknU (i := 12) rfl (by kernel_rfl) rfl H rfl ?_
     refine tknU (i := 13) rfl (by kernel_rfl) rfl H rfl ?_
     refine tkn (i := 14) rfl (by kernel_rfl) rfl H rfl ?_
     refine tkn (i := 15) rfl (by kernel_rfl) rfl H rfl ?_
     refine tknU (i := 16) rfl (by kernel_rfl) rfl H rfl ?_
     refine tknU (i := 17) rfl (by kernel_rfl) rfl H rfl ?_
     refine tknU (i := 18) rfl (by kernel_rfl) rfl H rfl ?_
     refine tknU (i := 19) rfl (by kernel_rfl) rfl H rfl ?_
     refine tknU (i := 20) rfl (by kernel_rfl) rfl H rfl ?_
     refine tknU (i := 21) rfl (by kernel_rfl) rfl H rfl ?_
     refine tkn (i := 22) rfl (by kernel_rfl) rfl H rfl ?_
     refine tk (i := 23) rfl (by kernel_rfl) rfl H (fun w' H => r_pkT (v := .bool _) rfl rfl) ?_
     refine tk (i := 24) rfl (by kernel_rfl) rfl H (fun w' H => r_asg (v := .bool _) rfl) ?_
     refine da (by kernel_rfl) ?_
     refine then_n ?_
     refine rt ?_
     refine fin_r ?_
     have hsig : sigOk ds a = true := decide_eq_true (by simpa using hc1)
     refine ⟨congrArg Value.bool ?_, H.fr⟩
     show _ = (!(sigOk ds a) || !(decide (crc32 (zHdr (pcs ds a 92)) = leV ((ds.drop (a + 16)).take 4))) || (decide (leV ((ds.drop (a + 84)).take 4) = 128) && decide (leV ((ds.drop (a + 80)).take 4) ≤ 1024) && decide (leV ((ds.drop (a + 72)).take 8) < 2147483648 / (s : Int))))
     rw [hsig]
     by_cases h4 : crc32 (zHdr (pcs ds a 92)) = leV ((ds.drop (a + 16)).take 4)
     ·exact absurd h4 hg4
     ·(rw [decide_eq_false h4]; rfl)
    ·refine tkg (i := 7) rfl (by kernel_rfl) rfl H rfl (fun w' H => r_mv (v := .func _ _ _) rfl) ?_
     refine fk (i := 8) (by kernel_rfl) rfl rfl rfl ?_
     refine gy rfl ?_
     refine cld rfl ca51 (c_fits1 _ b1 b2 (some ⟨q, 0, none⟩) L c a 84 4 ds (cell_at (H.look (b := b1))) (cell_at (H.look (b := b2))) (hq.keep H.fr) (by omega) (by omega) (by decide)) rfl ?_
     rintro _ w7 ⟨rfl, F⟩
     replace H := H.keep F; clear F
     refine nl ?_
     refine then_n ?_
     refine ⟨H, ?_⟩
     refine tkg (i := 9) rfl (by kernel_rfl) rfl H rfl (fun w' H => r_eql rfl rfl) ?_
     refine tkg (i := 10) rfl (by kernel_rfl) rfl H rfl (fun w' H => r_mv (v := .bool _) rfl) ?_
     refine spad (t := 71) rfl (fun hg5 => ?_) (fun hg5 => ?_)
     ·refine tkg (i := 11) rfl (by kernel_rfl) rfl H rfl (fun w' H => r_mv (v := .func _ _ _) rfl) ?_
      refine fk (i := 12) (by kernel_rfl) rfl rfl rfl ?_
      refine gy rfl ?_
      refine cld rfl ca51 (c_fits1 _ b1 b2 (some ⟨q, 0, none⟩) L c a 80 4 ds (cell_at (H.look (b := b1))) (cell_at (H.look (b := b2))) (hq.keep H.fr) (by omega) (by omega) (by decide)) rfl ?_
      rintro _ w8 ⟨rfl, F⟩
      replace H := H.keep F; clear F
      refine nl ?_
      refine then_n ?_
      refine ⟨H, ?_⟩
      refine tkg (i := 13) rfl (by kernel_rfl) rfl H rfl (fun w' H => r_leq rfl rfl) ?_
      refine tkg (i := 14) rfl (by kernel_rfl) rfl H rfl (fun w' H => r_pkT (v := .bool _) rfl rfl) ?_
      refine tkg (i := 15) rfl (by kernel_rfl) rfl H rfl (fun w' H => r_mv (v := .bool _) rfl) ?_
      refine spad (t := 76) rfl (fun hg6 => ?_) (fun hg6 => ?_)
      ·refine tkg (i := 16) rfl (by kernel_rfl) rfl H rfl (fun w' H => r_mv (v := .func _ _ _) rfl) ?_
       refine tkg (i := 18) rfl (by kernel_rfl) rfl H rfl (fun w' H => r_mv (v := .int .i64 _) rfl) ?_
       refine tkg (i := 19) rfl (by kernel_rfl) rfl H rfl (fun w' H => r_cvi rfl rfl Tryd.underlying28 (by first | exact w_u64 (by omega) | exact w_u64 (rng_u64 _) | exact m_u64 _)) ?_
       refine tkg (i := 20) rfl (by kernel_rfl) rfl H rfl (fun w' H => r_quo (c := 2147483648 / (s : Int)) rfl rfl (by omega) (by omega) (w_u64 ⟨Int.ediv_nonneg (by decide) (by omega), Int.le_trans (Int.ediv_le_self _ (by decide)) (by decide)⟩)) ?_
       refine fk (i := 17) (by kernel_rfl) rfl rfl rfl ?_
       refine gy rfl ?_
       refine cld rfl ca51 (c_fits1 _ b1 b2 (some ⟨q, 0, none⟩) L c a 72 8 ds (cell_at (H.look (b := b1))) (cell_at (H.look (b := b2))) (hq.keep H.fr) (by omega) (by omega) (by decide)) rfl ?_
       rintro _ w9 ⟨rfl, F⟩
       replace H := H.keep F; clear F
       refine nl ?_
       refine then_n ?_
       refine ⟨H, ?_⟩
       refine tkg (i := 21) rfl (by kernel_rfl) rfl H rfl (fun w' H => r_lss rfl rfl) ?_
       refine tkg (i := 22) rfl (by kernel_rfl) rfl H rfl (fun w' H => r_pkT (v := .bool _) rfl rfl) ?_
       refine tk (i := 23) rfl (by kernel_rfl) rfl H (fun w' H => r_pkF (v := .bool _) rfl rfl) ?_
       refine tk (i := 24) rfl (by kernel_rfl) rfl H (fun w' H => r_asg (v := .bool _) rfl) ?_
       refine da (by kernel_rfl) ?_
       refine then_n ?_
       refine rt ?_
       refine fin_r ?_
       have hsig : sigOk ds a = true := decide_eq_true (by simpa using hc1)
       refine ⟨congrArg Value.bool ?_, H.fr⟩
       show _ = (!(sigOk ds a) || !(decide (crc32 (zHdr (pcs ds a 92)) = leV ((ds.drop (a + 16)).take 4))) || (decide (leV ((ds.drop (a + 84)).take 4) = 128) && decide (leV ((ds.drop (a + 80)).take 4) ≤ 1024) && decide (leV ((ds.drop (a + 72)).take 8) < 2147483648 / (s : Int))))
       rw [hsig]
       by_cases h4 : crc32 (zHdr (pcs ds a 92)) = leV ((ds.drop (a + 16)).take 4)
       ·(rw [decide_eq_true h4]; first | (simp [hg5, hg6]; done) | (simp [hg5]; done) | (simp; done))
       ·exact absurd (Classical.not_not.1 hg4) h4
      ·refine tkn (i := 16) rfl (by kernel_rfl) rfl H rfl ?_
       refine tkn (i := 17) rfl (by kernel_rfl) rfl H rfl ?_
       refine tkn (i := 18) rfl (by kernel_rfl) rfl H rfl ?_
       refine tkn (i := 19) rfl (by kernel_rfl) rfl H rfl ?_
       refine tkn (i := 20) rfl (by kernel_rfl) rfl H rfl ?_
       refine tkn (i := 21) rfl (by kernel_rfl) rfl H rfl ?_
       refine tkg (i := 22) rfl (by kernel_rfl) rfl H rfl (fun w' H => r_pkF (v := .bool _) rfl rfl) ?_
       refine tk (i := 23) rfl (by kernel_rfl) rfl H (fun w' H => r_pkF (v := .bool _) rfl rfl) ?_
       refine tk (i := 24) rfl (by kernel_rfl) rfl H (fun w' H => r_asg (v := .bool _) rfl) ?_
       refine da (by kernel_rfl) ?_
       refine then_n ?_
       refine rt ?_
       refine fin_r ?_
       have hsig : sigOk ds a = true := decide_eq_true (by simpa using hc1)
       refine ⟨congrArg Value.bool ?_, H.fr⟩
       show _ = (!(sigOk ds a) || !(decide (crc32 (zHdr (pcs ds a 92)) = leV ((ds.drop (a + 16)).take 4))) || (decide (leV ((ds.drop (a + 84)).take 4) = 128) && decide (leV ((ds.drop (a + 80)).take 4) ≤ 1024) && decide (leV ((ds.drop (a + 72)).take 8) < 2147483648 / (s : Int))))
       rw [hsig]
       by_cases h4 : crc32 (zHdr (pcs ds a 92)) = leV ((ds.drop (a + 16)).take 4)
       ·(rw [decide_eq_true h4]; first | (simp [hg5, hg6]; done) | (simp [hg5]; done) | (simp; done))
       ·exact absurd (Classical.not_not.1 hg4) h4
     ·refine tkn (i := 11) rfl (by kernel_rfl) rfl H rfl ?_
      refine tkn (i := 12) rfl (by kernel_rfl) rfl H rfl ?_
      refine tkn (i := 13) rfl (by kernel_rfl) rfl H rfl ?_
      refine tkg (i := 14) rfl (by kernel_rfl) rfl H rfl (fun w' H => r_pkF (v := .bool _) rfl rfl) ?_
      refine tkg (i := 15) rfl (by kernel_rfl) rfl H rfl (fun w' H => r_mv (v := .bool _) rfl) ?_
      refine tkn (i := 16) rfl (by kernel_rfl) rfl H rfl ?_
      refine tkn (i := 17) rfl (by kernel_rfl) rfl H rfl ?_
      refine tkn (i := 18) rfl (by kernel_rfl) rfl H rfl ?_
      refine tkn (i := 19) rfl (by kernel_rfl) rfl H rfl ?_
      refine tkn (i := 20) rfl (by kernel_rfl) rfl H rfl ?_
      refine tkn (i := 21) rfl (by kernel_rfl) rfl H rfl ?_
      refine tkg (i := 22) rfl (by kernel_rfl) rfl H rfl (fun w' H => r_pkF (v := .bool _) rfl rfl) ?_
      refine tk (i := 23) rfl (by kernel_rfl) rfl H (fun w' H => r_pkF (v := .bool _) rfl rfl) ?_
      refine tk (i := 24) rfl (by kernel_rfl) rfl H (fun w' H => r_asg (v := .bool _) rfl) ?_
      refine da (by kernel_rfl) ?_
      refine then_n ?_
      refine rt ?_
      refine fin_r ?_
      have hsig : sigOk ds a = true := decide_eq_true (by simpa using hc1)
      refine ⟨congrArg Value.bool ?_, H.fr⟩
      show _ = (!(sigOk ds a) || !(decide (crc32 (zHdr (pcs ds a 92)) = leV ((ds.drop (a + 16)).take 4))) || (decide (leV ((ds.drop (a + 84)).take 4) = 128) && decide (leV ((ds.drop (a + 80)).take 4) ≤ 1024) && decide (leV ((ds.drop (a + 72)).take 8) < 2147483648 / (s : Int))))
      rw [hsig]
      by_cases h4 : crc32 (zHdr (pcs ds a 92)) = leV ((ds.drop (a + 16)).take 4)
      ·(rw [decide_eq_true h4]; first | (simp [hg5, hg6]; done) | (simp [hg5]; done) | (simp; done))
      ·exact absurd (Classical.not_not.1 hg4) h4
end Go.Proofs.YthcaejaaalkglaaDoor.X
/- Walks of functions, printed by a program of this claim. -/
namespace Go.Proofs.YthcaejaaalkglaaDoor.X
set_option linter.unusedVariables false
set_option linter.unusedSimpArgs false
open Go Go.RowKit
namespace PF
theorem bo119 : buildOK Tryd.prog 119 = true := by kernel_rfl
theorem bo94 : buildOK Tryd.prog 94 = true := by kernel_rfl
theorem cc117 : Tryd.prog.concrete 117 = true := by kernel_rfl
theorem fo94_0 : fieldOff Tryd.prog 94 0 = some 0 := by kernel_rfl
theorem pl119_0 : placeOf Tryd.prog 119 0 = some (0, 1) := by kernel_rfl
theorem pl94_0 : placeOf Tryd.prog 94 0 = some (0, 1) := by kernel_rfl
theorem ze119 : zeroL Tryd.prog 119 = some [.string ⟨#[]⟩] := by kernel_rfl
theorem ze94 : zeroL Tryd.prog 94 = some [.slice none 0 0, .int .i64 0, .bool false, .slice none 0 0] := by kernel_rfl
end PF
open PF
set_option maxRecDepth 100000 in
set_option maxHeartbeats 1000000 in
theorem c_errNew (w : World) (s : List UInt8) : Calls Tryd.prog 49 #[.string (str s)] w (Ret fun v w' => (∃ b, v = .iface 117 (.pointer (some ⟨b, 0, none⟩))) ∧ Fr [] w w') := by
 refine enter (fun ρ => ρ 2) Tryd.func49 rfl rfl rfl (res1 rfl) ?_
 have H := SH.nil w
 refine sq ?_
 refine rg ?_
 refine asg (v := .nilIface) rfl rfl ?_
 refine nl ?_
 refine then_n ?_
 refine sq ?_
 refine rg ?_
 refine mv (v := .string _) rfl rfl ?_
 refine bu (out := ?o1) ze119 bo119 ?f1 rfl ?_
 case f1 =>
  refine FL.one (v := .string _) rfl pl119_0 rfl (by first | decide | simp) ?_
  exact FL.nil
 refine bx (v := .agg _) H rfl rfl rfl ?_
 clear H; intro b1 w1 hb1 H _
 refine mi (v := .pointer _) rfl cc117 rfl ?_
 refine asg (v := .iface _ _) rfl rfl ?_
 refine nl ?_
 refine then_n ?_
 refine rt ?_
 refine fin_r ?_
 exact ⟨⟨_, rfl⟩, H.fr⟩
set_option maxRecDepth 100000 in
set_option maxHeartbeats 1000000 in
theorem c_secAsked (w : World) (s : Nat) (hs : s ≤ 1000000) : Calls Tryd.prog 45 #[.int .i64 (s : Int)] w (Ret fun v w' => v = .bool (decide (512 ≤ s ∧ s ≤ 4096)) ∧ Fr [] w w') := by
 refine enter (fun ρ => ρ 2) Tryd.func45 rfl rfl rfl (res1 rfl) ?_
 have H := SH.nil w
 refine sq ?_
 refine rg ?_
 refine asg (v := .bool _) rfl rfl ?_
 refine nl ?_
 refine then_n ?_
 refine sq ?_
 refine rg ?_
 refine mv (v := .int .i64 _) rfl rfl ?_
 refine geq rfl rfl rfl ?_
 refine mv (v := .bool _) rfl rfl ?_
 refine spd (t := 5) rfl (fun hg1 => ?_) (fun hg1 => ?_)
 ·refine gy rfl ?_
  refine mv (v := .int .i64 _) rfl rfl ?_
  refine gy rfl ?_
  refine leq rfl rfl rfl ?_
  refine pkT (v := .bool _) rfl rfl rfl ?_
  refine asg (v := .bool _) rfl rfl ?_
  refine nl ?_
  refine then_n ?_
  refine rt ?_
  refine fin_r ?_
  exact ⟨congrArg Value.bool (by first | (rw [decide_eq_true (by omega)]; done) | (rw [decide_eq_false (by omega)]; done) | (apply decide_eq_decide.2; omega)), H.fr⟩
 ·refine gn rfl rfl ?_
  refine gn rfl rfl ?_
  refine pkF (v := .bool _) rfl rfl rfl ?_
  refine asg (v := .bool _) rfl rfl ?_
  refine nl ?_
  refine then_n ?_
  refine rt ?_
  refine fin_r ?_
  exact ⟨congrArg Value.bool (by first | (rw [decide_eq_true (by omega)]; done) | (rw [decide_eq_false (by omega)]; done) | (apply decide_eq_decide.2; omega)), H.fr⟩
set_option maxRecDepth 100000 in
set_option maxHeartbeats 1000000 in
theorem c_memoryOf (w : World) (s : List UInt8) (hs : s.length ≤ 100000000) : Calls Tryd.prog 30 #[.string (str s)] w (Ret fun v w' => ∃ b d c, v = .pointer (some ⟨b, 0, none⟩) ∧ s.length ≤ c ∧ SH w [] w' [⟨b, .cells [.slice (some ⟨d, 0, none⟩) s.length c, .int .i64 0, .bool false, .slice none 0 0].toArray 94 (0, 0), true⟩, ⟨d, .cells (Bs (s ++ List.replicate (c - s.length) 0)).toArray 5 (c, c + 1), true⟩]) := by
 refine enter (fun ρ => ρ 2) Tryd.func30 rfl rfl rfl (res1 rfl) ?_
 have H := SH.nil w
 refine sq ?_
 refine rg ?_
 refine asg (v := .pointer _) rfl rfl ?_
 refine nl ?_
 refine then_n ?_
 refine sq ?_
 refine rg ?_
 refine mv (v := .string _) rfl rfl ?_
 refine cvSB H rfl Tryd.underlying9 Tryd.underlying30 Tryd.underlying5 rfl ?_
 clear H; intro b1 cp1 w1 hb1 hcp1 H _
 refine bu (out := ?o1) ze94 bo94 ?f1 rfl ?_
 case f1 =>
  refine FL.one (v := .slice _ _ _) rfl pl94_0 rfl (by first | decide | simp) ?_
  exact FL.nil
 refine bx (v := .agg _) H rfl rfl rfl ?_
 clear H; intro b2 w2 hb2 H _
 refine asg (v := .pointer _) rfl rfl ?_
 refine nl ?_
 refine then_n ?_
 refine rt ?_
 refine fin_r ?_
 exact ⟨_, _, _, rfl, by assumption, H⟩
set_option maxRecDepth 100000 in
set_option maxHeartbeats 1000000 in
theorem c_readAt (w : World) (bm bd b2 L c k o n c2 : Nat) (T2 : TypeId) (ds bs : List UInt8) (hm : w.cell? ⟨bm, 0, none⟩ = some (.slice (some ⟨bd, 0, none⟩) L c)) (hd : RB w (some ⟨bd, 0, none⟩) L ds) (h2 : w.heap[b2]? = some (.cells (Bs bs).toArray T2 (0, 0))) (hne : b2 ≠ bm ∧ b2 ≠ bd) (hk : k + n ≤ L) (hLc : L ≤ c) (hn : 0 < n) (hn2 : o + n ≤ bs.length) (hc : L ≤ 1000000000) : Calls Tryd.prog 99 #[.pointer (some ⟨bm, 0, none⟩), .slice (some ⟨b2, o, none⟩) n c2, .int .i64 (k : Int)] w (Ret fun v w' => v = .tuple #[.int .i64 (n : Int), .nilIface] ∧ Fr [b2] w w' ∧ w'.heap[b2]? = some (.cells (Bs (pAt bs o (pcs ds k n))).toArray T2 (0, 0))) := by
 refine enter (fun ρ => .tuple #[ρ 6, ρ 7]) Tryd.func99 rfl rfl rfl (res2 rfl) ?_
 have H := SH.rw1 h2
 have hdl := hd.1
 refine sq ?_
 refine rg ?_
 refine asg (v := .int .i64 _) rfl rfl ?_
 refine asg (v := .nilIface) rfl rfl ?_
 refine nl ?_
 refine then_n ?_
 refine sq ?_
 refine sq ?_
 refine rg ?_
 refine mv (v := .int .i64 _) rfl rfl ?_
 refine lss rfl rfl rfl ?_
 refine nl ?_
 refine then_n ?_
 refine cF rfl (by omega) ?_
 refine sk ?_
 refine then_n ?_
 refine sq ?_
 refine sq ?_
 refine rg ?_
 refine mv (v := .slice _ _ _) rfl rfl ?_
 refine lnS rfl Tryd.underlying30 rfl ?_
 refine eql rfl rfl rfl ?_
 refine nl ?_
 refine then_n ?_
 refine cF rfl (by omega) ?_
 refine sk ?_
 refine then_n ?_
 refine sq ?_
 refine sq ?_
 refine rg ?_
 refine mv (v := .int .i64 _) rfl rfl ?_
 refine mv (v := .pointer _) rfl rfl ?_
 refine nc rfl rfl ?_
 refine fa rfl fo94_0 rfl ?_
 refine lc rfl (H.fr.cell hm (by simp [Ne.symm hne.1])) sc30 rfl ?_
 refine lnS rfl Tryd.underlying30 rfl ?_
 refine geq rfl rfl rfl ?_
 refine nl ?_
 refine then_n ?_
 refine cF rfl (by omega) ?_
 refine sk ?_
 refine then_n ?_
 refine sq ?_
 refine rg ?_
 refine mv (v := .slice _ _ _) rfl rfl ?_
 refine mv (v := .pointer _) rfl rfl ?_
 refine nc rfl rfl ?_
 refine fa rfl fo94_0 rfl ?_
 refine lc rfl (H.fr.cell hm (by simp [Ne.symm hne.1])) sc30 rfl ?_
 refine mv (v := .int .i64 _) rfl rfl ?_
 refine sllN (0 + k) (L - k) (c - k) rfl rfl Tryd.underlying30 sz5_1 (by omega) (by omega) rfl ?_
 refine cpB (bs := ds.drop k) H rfl rfl Tryd.underlying30 sz5_1 ((hd.drop (k := k) (by omega)).now H.fr (by simp [Ne.symm hne.2])) (by omega) (by omega) rfl ?_
 clear H; intro w1 H _
 have hmin : min (L - k) n = n := by omega
 refine asg (v := .int .i64 _) rfl rfl ?_
 refine nl ?_
 refine then_n ?_
 refine sq ?_
 refine sq ?_
 refine rg ?_
 refine mv (v := .int .i64 _) rfl rfl ?_
 refine mv (v := .slice _ _ _) rfl rfl ?_
 refine lnS rfl Tryd.underlying30 rfl ?_
 refine lss rfl rfl rfl ?_
 refine nl ?_
 refine then_n ?_
 refine cF rfl (by omega) ?_
 refine sk ?_
 refine then_n ?_
 refine sq ?_
 refine rg ?_
 refine mv (v := .int .i64 _) rfl rfl ?_
 refine asg (v := .int .i64 _) rfl rfl ?_
 refine asg (v := .nilIface) rfl rfl ?_
 refine nl ?_
 refine then_n ?_
 refine rt ?_
 refine fin_r ?_
 have e := H.look (b := b2)
 refine ⟨?_, H.fr, ?_⟩
 ·show Value.tuple #[.int .i64 ((min (L - k) n : Nat) : Int), .nilIface] = _
  rw [hmin]
 rw [e, hmin]
 have e2 : (pcs ds k n).length = n := pcs_len (by omega)
 unfold pAt
 rw [e2]
 rfl
set_option maxRecDepth 100000 in
set_option maxHeartbeats 1000000 in
theorem c_getSig (w : World)  : Calls Tryd.prog 64 #[] w (Ret fun v w' => ∃ b, v = .slice (some ⟨b, 0, none⟩) 8 8 ∧ w.heap.size ≤ b ∧ w'.heap[b]? = some (.cells (Bs [69, 70, 73, 32, 80, 65, 82, 84]).toArray 5 (0, 0)) ∧ Fr [] w w') := by
 refine enter (fun ρ => ρ 0) Tryd.func64 rfl rfl rfl (res1 rfl) ?_
 have H := SH.nil w
 refine sq ?_
 refine rg ?_
 refine asg (v := .slice _ _ _) rfl rfl ?_
 refine nl ?_
 refine then_n ?_
 refine sq ?_
 refine rg ?_
 refine bsl (sz := 1) (out := ?o1) H Tryd.underlying30 ze5 sz5_1 (by decide) ?f1 rfl ?_
 case f1 =>
  refine FS.one (v := .int .u8 _) rfl rfl rfl (by first | decide | simp) ?_
  refine FS.one (v := .int .u8 _) rfl rfl rfl (by first | decide | simp) ?_
  refine FS.one (v := .int .u8 _) rfl rfl rfl (by first | decide | simp) ?_
  refine FS.one (v := .int .u8 _) rfl rfl rfl (by first | decide | simp) ?_
  refine FS.one (v := .int .u8 _) rfl rfl rfl (by first | decide | simp) ?_
  refine FS.one (v := .int .u8 _) rfl rfl rfl (by first | decide | simp) ?_
  refine FS.one (v := .int .u8 _) rfl rfl rfl (by first | decide | simp) ?_
  refine FS.one (v := .int .u8 _) rfl rfl rfl (by first | decide | simp) ?_
  exact FS.nil
 clear H; intro b1 w1 hb1 H F
 refine asg (v := .slice _ _ _) rfl rfl ?_
 refine nl ?_
 refine then_n ?_
 refine rt ?_
 refine fin_r ?_
 exact ⟨_, rfl, H.ge, H.look, H.fr⟩
set_option maxRecDepth 100000 in
set_option maxHeartbeats 1000000 in
theorem c_getRev (w : World)  : Calls Tryd.prog 65 #[] w (Ret fun v w' => ∃ b, v = .slice (some ⟨b, 0, none⟩) 4 4 ∧ w.heap.size ≤ b ∧ w'.heap[b]? = some (.cells (Bs [0, 0, 1, 0]).toArray 5 (0, 0)) ∧ Fr [] w w') := by
 refine enter (fun ρ => ρ 0) Tryd.func65 rfl rfl rfl (res1 rfl) ?_
 have H := SH.nil w
 refine sq ?_
 refine rg ?_
 refine asg (v := .slice _ _ _) rfl rfl ?_
 refine nl ?_
 refine then_n ?_
 refine sq ?_
 refine rg ?_
 refine bsl (sz := 1) (out := ?o1) H Tryd.underlying30 ze5 sz5_1 (by decide) ?f1 rfl ?_
 case f1 =>
  refine FS.one (v := .int .u8 _) rfl rfl rfl (by first | decide | simp) ?_
  refine FS.one (v := .int .u8 _) rfl rfl rfl (by first | decide | simp) ?_
  refine FS.one (v := .int .u8 _) rfl rfl rfl (by first | decide | simp) ?_
  refine FS.one (v := .int .u8 _) rfl rfl rfl (by first | decide | simp) ?_
  exact FS.nil
 clear H; intro b1 w1 hb1 H F
 refine asg (v := .slice _ _ _) rfl rfl ?_
 refine nl ?_
 refine then_n ?_
 refine rt ?_
 refine fin_r ?_
 exact ⟨_, rfl, H.ge, H.look, H.fr⟩
set_option maxRecDepth 100000 in
set_option maxHeartbeats 1000000 in
theorem c_getHs (w : World)  : Calls Tryd.prog 66 #[] w (Ret fun v w' => ∃ b, v = .slice (some ⟨b, 0, none⟩) 4 4 ∧ w.heap.size ≤ b ∧ w'.heap[b]? = some (.cells (Bs [92, 0, 0, 0]).toArray 5 (0, 0)) ∧ Fr [] w w') := by
 refine enter (fun ρ => ρ 0) Tryd.func66 rfl rfl rfl (res1 rfl) ?_
 have H := SH.nil w
 refine sq ?_
 refine rg ?_
 refine asg (v := .slice _ _ _) rfl rfl ?_
 refine nl ?_
 refine then_n ?_
 refine sq ?_
 refine rg ?_
 refine bsl (sz := 1) (out := ?o1) H Tryd.underlying30 ze5 sz5_1 (by decide) ?f1 rfl ?_
 case f1 =>
  refine FS.one (v := .int .u8 _) rfl rfl rfl (by first | decide | simp) ?_
  refine FS.one (v := .int .u8 _) rfl rfl rfl (by first | decide | simp) ?_
  refine FS.one (v := .int .u8 _) rfl rfl rfl (by first | decide | simp) ?_
  refine FS.one (v := .int .u8 _) rfl rfl rfl (by first | decide | simp) ?_
  exact FS.nil
 clear H; intro b1 w1 hb1 H F
 refine asg (v := .slice _ _ _) rfl rfl ?_
 refine nl ?_
 refine then_n ?_
 refine rt ?_
 refine fin_r ?_
 exact ⟨_, rfl, H.ge, H.look, H.fr⟩
set_option maxRecDepth 100000 in
set_option maxHeartbeats 1000000 in
theorem c_getZ (w : World)  : Calls Tryd.prog 67 #[] w (Ret fun v w' => ∃ b, v = .slice (some ⟨b, 0, none⟩) 4 4 ∧ w.heap.size ≤ b ∧ w'.heap[b]? = some (.cells (Bs [0, 0, 0, 0]).toArray 5 (0, 0)) ∧ Fr [] w w') := by
 refine enter (fun ρ => ρ 0) Tryd.func67 rfl rfl rfl (res1 rfl) ?_
 have H := SH.nil w
 refine sq ?_
 refine rg ?_
 refine asg (v := .slice _ _ _) rfl rfl ?_
 refine nl ?_
 refine then_n ?_
 refine sq ?_
 refine rg ?_
 refine bsl (sz := 1) (out := ?o1) H Tryd.underlying30 ze5 sz5_1 (by decide) ?f1 rfl ?_
 case f1 =>
  refine FS.one (v := .int .u8 _) rfl rfl rfl (by first | decide | simp) ?_
  refine FS.one (v := .int .u8 _) rfl rfl rfl (by first | decide | simp) ?_
  refine FS.one (v := .int .u8 _) rfl rfl rfl (by first | decide | simp) ?_
  refine FS.one (v := .int .u8 _) rfl rfl rfl (by first | decide | simp) ?_
  exact FS.nil
 clear H; intro b1 w1 hb1 H F
 refine asg (v := .slice _ _ _) rfl rfl ?_
 refine nl ?_
 refine then_n ?_
 refine rt ?_
 refine fin_r ?_
 exact ⟨_, rfl, H.ge, H.look, H.fr⟩
set_option maxRecDepth 100000 in
set_option maxHeartbeats 1000000 in
theorem c_getMs (w : World)  : Calls Tryd.prog 71 #[] w (Ret fun v w' => ∃ b, v = .slice (some ⟨b, 0, none⟩) 2 2 ∧ w.heap.size ≤ b ∧ w'.heap[b]? = some (.cells (Bs [85, 170]).toArray 5 (0, 0)) ∧ Fr [] w w') := by
 refine enter (fun ρ => ρ 0) Tryd.func71 rfl rfl rfl (res1 rfl) ?_
 have H := SH.nil w
 refine sq ?_
 refine rg ?_
 refine asg (v := .slice _ _ _) rfl rfl ?_
 refine nl ?_
 refine then_n ?_
 refine sq ?_
 refine rg ?_
 refine bsl (sz := 1) (out := ?o1) H Tryd.underlying30 ze5 sz5_1 (by decide) ?f1 rfl ?_
 case f1 =>
  refine FS.one (v := .int .u8 _) rfl rfl rfl (by first | decide | simp) ?_
  refine FS.one (v := .int .u8 _) rfl rfl rfl (by first | decide | simp) ?_
  exact FS.nil
 clear H; intro b1 w1 hb1 H F
 refine asg (v := .slice _ _ _) rfl rfl ?_
 refine nl ?_
 refine then_n ?_
 refine rt ?_
 refine fin_r ?_
 exact ⟨_, rfl, H.ge, H.look, H.fr⟩
set_option maxRecDepth 100000 in
set_option maxHeartbeats 1000000 in
theorem c_zeroU (w : World)  : Calls Tryd.prog 77 #[] w (Ret fun v w' => ∃ b, v = .slice (some ⟨b, 0, none⟩) 16 16 ∧ w.heap.size ≤ b ∧ w'.heap[b]? = some (.cells (Bs (List.replicate 16 0)).toArray 5 (0, 0)) ∧ Fr [] w w') := by
 refine enter (fun ρ => ρ 0) Tryd.func77 rfl rfl rfl (res1 rfl) ?_
 have H := SH.nil w
 refine sq ?_
 refine rg ?_
 refine asg (v := .slice _ _ _) rfl rfl ?_
 refine nl ?_
 refine then_n ?_
 refine sq ?_
 refine rg ?_
 refine mkB H rfl rfl Tryd.underlying30 mi5 (by omega) (by omega) (by omega) (by omega) rfl ?_
 clear H; intro b1 w1 hb1 H _
 refine asg (v := .slice _ _ _) rfl rfl ?_
 refine nl ?_
 refine then_n ?_
 refine rt ?_
 refine fin_r ?_
 exact ⟨_, rfl, H.ge, H.look, H.fr⟩
end Go.Proofs.YthcaejaaalkglaaDoor.X
/- Walks of functions, printed by a program of this claim. -/
namespace Go.Proofs.YthcaejaaalkglaaDoor.X
set_option linter.unusedVariables false
set_option linter.unusedSimpArgs false
open Go Go.RowKit
namespace PF
theorem ag128_0 : aggB Tryd.prog 128 0 = true := by kernel_rfl
theorem ag99_15 : aggB Tryd.prog 99 15 = true := by kernel_rfl
theorem bo99 : buildOK Tryd.prog 99 = true := by kernel_rfl
theorem ca49 : callable Tryd.prog 49 = true := by kernel_rfl
theorem ca59 : callable Tryd.prog 59 = true := by kernel_rfl
theorem ca60 : callable Tryd.prog 60 = true := by kernel_rfl
theorem ca61 : callable Tryd.prog 61 = true := by kernel_rfl
theorem ca62 : callable Tryd.prog 62 = true := by kernel_rfl
theorem ca63 : callable Tryd.prog 63 = true := by kernel_rfl
theorem ca64 : callable Tryd.prog 64 = true := by kernel_rfl
theorem ca65 : callable Tryd.prog 65 = true := by kernel_rfl
theorem ca66 : callable Tryd.prog 66 = true := by kernel_rfl
theorem ca67 : callable Tryd.prog 67 = true := by kernel_rfl
theorem ca68 : callable Tryd.prog 68 = true := by kernel_rfl
theorem ca69 : callable Tryd.prog 69 = true := by kernel_rfl
theorem ca70 : callable Tryd.prog 70 = true := by kernel_rfl
theorem pl99_10 : placeOf Tryd.prog 99 10 = some (10, 1) := by kernel_rfl
theorem pl99_11 : placeOf Tryd.prog 99 11 = some (11, 1) := by kernel_rfl
theorem pl99_12 : placeOf Tryd.prog 99 12 = some (12, 1) := by kernel_rfl
theorem pl99_13 : placeOf Tryd.prog 99 13 = some (13, 1) := by kernel_rfl
theorem pl99_3 : placeOf Tryd.prog 99 3 = some (3, 1) := by kernel_rfl
theorem pl99_6 : placeOf Tryd.prog 99 6 = some (6, 1) := by kernel_rfl
theorem pl99_7 : placeOf Tryd.prog 99 7 = some (7, 1) := by kernel_rfl
theorem pl99_8 : placeOf Tryd.prog 99 8 = some (8, 1) := by kernel_rfl
theorem pl99_9 : placeOf Tryd.prog 99 9 = some (9, 1) := by kernel_rfl
theorem ze99 : zeroL Tryd.prog 99 = some [.slice none 0 0, .int .i64 0, .int .i64 0, .string ⟨#[]⟩, .bool false, .bool false, .int .i64 0, .int .u32 0, .int .u64 0, .int .u32 0, .int .u64 0, .int .u64 0, .int .u64 0, .int .u64 0, .bool false] := by kernel_rfl
end PF
open PF
set_option maxRecDepth 100000 in
set_option maxHeartbeats 2000000 in
theorem c_readHdr (w : World) (q o n c : Nat) (T : TypeId) (bs : List UInt8) (hb : w.heap[q]? = some (.cells (Bs bs).toArray T (0, 0))) (hn : 92 ≤ n) (hc : n ≤ c) (ho : o + n ≤ bs.length) (hbl : bs.length ≤ 1000000000) : Calls Tryd.prog 55 #[.slice (some ⟨q, o, none⟩) n c] w (Ret fun v w' => Fr [q] w w' ∧ w'.heap[q]? = some (.cells (Bs (pAt bs (o + 16) [0, 0, 0, 0])).toArray T (0, 0)) ∧ ((hdrGood bs o = true ∧ ∃ p, v = .tuple #[.pointer (some ⟨p, 0, none⟩), .nilIface] ∧ w.heap.size ≤ p ∧ w'.heap[p]? = some (.cells [.slice none 0 0, .int .i64 0, .int .i64 0, .string (str (gT (pcs bs (o + 56) 16))), .bool false, .bool false, .int .i64 (fld bs (o + 80) 4), .int .u32 (fld bs (o + 84) 4), .int .u64 (fld bs (o + 72) 8), .int .u32 (fld bs (o + 88) 4), .int .u64 (fld bs (o + 24) 8), .int .u64 (fld bs (o + 32) 8), .int .u64 (fld bs (o + 40) 8), .int .u64 (fld bs (o + 48) 8), .bool false].toArray 99 (0, 0))) ∨ (hdrGood bs o = false ∧ ∃ e, v = .tuple #[.pointer none, .iface 117 e]))) := by
 refine enter (fun ρ => .tuple #[ρ 2, ρ 3]) Tryd.func55 rfl rfl rfl (res2 rfl) ?_
 have H := SH.rw1 hb
 have h92 : o + 92 ≤ bs.length := by omega
 have hp4 : (pcs bs (o + 16) 4).length = 4 := pcs_len (by omega)
 have hp16 : (pcs bs (o + 56) 16).length = 16 := pcs_len (by omega)
 have hcr := crc32_rng (zHdr (pcs bs o 92))
 have h80 : 0 ≤ leV (pcs bs (o + 80) 4) ∧ leV (pcs bs (o + 80) 4) ≤ 4294967295 := fld_rng (by decide)
 refine sq ?_
 refine rg ?_
 refine asg (v := .pointer _) rfl rfl ?_
 refine asg (v := .nilIface) rfl rfl ?_
 refine nl ?_
 refine then_n ?_
 refine sq ?_
 refine rg ?_
 refine mv (v := .slice _ _ _) rfl rfl ?_
 refine asg (v := .slice _ _ _) rfl rfl ?_
 refine nl ?_
 refine then_n ?_
 refine sq ?_
 refine rg ?_
 refine mv (v := .slice _ _ _) rfl rfl ?_
 refine sllhN (o + 0) (8) (c - 0) rfl rfl rfl Tryd.underlying30 sz5_1 (by omega) (by omega) rfl ?_
 refine asg (v := .slice _ _ _) rfl rfl ?_
 refine nl ?_
 refine then_n ?_
 refine sq ?_
 refine rg ?_
 refine mv (v := .slice _ _ _) rfl rfl ?_
 refine sllhN (o + 8) (4) (c - 8) rfl rfl rfl Tryd.underlying30 sz5_1 (by omega) (by omega) rfl ?_
 refine asg (v := .slice _ _ _) rfl rfl ?_
 refine nl ?_
 refine then_n ?_
 refine sq ?_
 refine rg ?_
 refine mv (v := .slice _ _ _) rfl rfl ?_
 refine sllhN (o + 12) (4) (c - 12) rfl rfl rfl Tryd.underlying30 sz5_1 (by omega) (by omega) rfl ?_
 refine asg (v := .slice _ _ _) rfl rfl ?_
 refine nl ?_
 refine then_n ?_
 refine sq ?_
 refine dr (by kernel_rfl) ?_
 have H := H.drew
 refine hold (fun _ => True) [] ?_
 refine tk (i := 1) rfl (by kernel_rfl) rfl trivial (fun _ _ => r_mv (v := .slice _ _ _) rfl) ?_
 refine tk (i := 2) rfl (by kernel_rfl) rfl trivial (fun _ _ => r_sllhN (o + 16) (4) (c - 16) rfl rfl rfl Tryd.underlying30 sz5_1 (by omega) (by omega)) ?_
 refine unfree ?_
 refine fo (i := 0) (by kernel_rfl) rfl rfl ?_
 refine mkB H rfl rfl Tryd.underlying30 mi5 (by omega) (by omega) (by omega) (by omega) rfl ?_
 clear H; intro b1 w1 hb1 H _
 refine nl ?_
 refine then_n ?_
 refine fo (i := 3) (by kernel_rfl) rfl rfl ?_
 refine apS (zs := [.int .u8 0]) (Bs (pcs bs (o + 16) 4)) (OR.made (n := 0) H (by decide) (by decide) rfl) rfl rfl Tryd.underlying30 ri5 (by rw [Bs_length, hp4]; rfl) (RB.cells (n := 4) (RB.of (b := q) (o := o + 16) (n := 4) H (by omega))) Bs_one (by simp) (by omega) (by unfold maxLen; omega) rfl ?_
 clear H; intro a9 cp9 w2 O
 obtain ⟨q9, cur, rfl, hn9, hcm, hcl, htk, H⟩ := O.blk
 obtain ⟨junk, hj⟩ := take_split (htk.trans (List.nil_append _))
 subst hj; clear htk
 refine nl ?_
 refine then_n ?_
 refine holdH H [] ?_
 refine tk (i := 4) rfl (by kernel_rfl) rfl H (fun w' H => r_asg (v := .slice _ _ _) rfl) ?_
 refine da (by kernel_rfl) ?_
 refine then_n ?_
 refine sq ?_
 refine rg ?_
 refine lw (vs := []) rfl ag128_0 rfl (by simp) rfl ?_
 refine mv (v := .slice _ _ _) rfl rfl ?_
 refine cl ca59 (c_uint32 _ _ _ _ (pcs bs (o + 16) 4) (RB.bj H hp4) rfl) rfl ?_
 rintro _ w3 ⟨rfl, F⟩
 replace H := H.keep F; clear F
 refine asg (v := .int .u32 _) rfl rfl ?_
 refine nl ?_
 refine then_n ?_
 refine sq ?_
 refine rg ?_
 refine mv (v := .slice _ _ _) rfl rfl ?_
 refine sllhN (o + 20) (4) (c - 20) rfl rfl rfl Tryd.underlying30 sz5_1 (by omega) (by omega) rfl ?_
 refine asg (v := .slice _ _ _) rfl rfl ?_
 refine nl ?_
 refine then_n ?_
 refine sq ?_
 refine dr (by kernel_rfl) ?_
 have H := H.drew
 refine hold (fun _ => True) [] ?_
 refine tk (i := 1) rfl (by kernel_rfl) rfl trivial (fun _ _ => r_mv (v := .slice _ _ _) rfl) ?_
 refine tk (i := 2) rfl (by kernel_rfl) rfl trivial (fun _ _ => r_sllhN (o + 24) (8) (c - 24) rfl rfl rfl Tryd.underlying30 sz5_1 (by omega) (by omega)) ?_
 refine unfree ?_
 refine holdH H [] ?_
 refine tk (i := 0) rfl (by kernel_rfl) rfl H (fun w' H => r_lw (vs := []) rfl ag128_0 rfl (by simp)) ?_
 refine fk (i := 3) (by kernel_rfl) rfl rfl rfl ?_
 refine cl ca60 (c_uint64 _ _ _ _ (pcs bs (o + 24) 8) (RB.of (b := q) (o := o + 24) (n := 8) H (by omega)) rfl) rfl ?_
 rintro _ w4 ⟨rfl, F⟩
 replace H := H.keep F; clear F
 refine nl ?_
 refine then_n ?_
 refine ⟨H, ?_⟩
 refine tk (i := 4) rfl (by kernel_rfl) rfl H (fun w' H => r_asg (v := .int .u64 _) rfl) ?_
 refine da (by kernel_rfl) ?_
 refine then_n ?_
 refine sq ?_
 refine dr (by kernel_rfl) ?_
 have H := H.drew
 refine hold (fun _ => True) [] ?_
 refine tk (i := 1) rfl (by kernel_rfl) rfl trivial (fun _ _ => r_mv (v := .slice _ _ _) rfl) ?_
 refine tk (i := 2) rfl (by kernel_rfl) rfl trivial (fun _ _ => r_sllhN (o + 32) (8) (c - 32) rfl rfl rfl Tryd.underlying30 sz5_1 (by omega) (by omega)) ?_
 refine unfree ?_
 refine holdH H [] ?_
 refine tk (i := 0) rfl (by kernel_rfl) rfl H (fun w' H => r_lw (vs := []) rfl ag128_0 rfl (by simp)) ?_
 refine fk (i := 3) (by kernel_rfl) rfl rfl rfl ?_
 refine cl ca60 (c_uint64 _ _ _ _ (pcs bs (o + 32) 8) (RB.of (b := q) (o := o + 32) (n := 8) H (by omega)) rfl) rfl ?_
 rintro _ w5 ⟨rfl, F⟩
 replace H := H.keep F; clear F
 refine nl ?_
 refine then_n ?_
 refine ⟨H, ?_⟩
 refine tk (i := 4) rfl (by kernel_rfl) rfl H (fun w' H => r_asg (v := .int .u64 _) rfl) ?_
 refine da (by kernel_rfl) ?_
 refine then_n ?_
 refine sq ?_
 refine dr (by kernel_rfl) ?_
 have H := H.drew
 refine hold (fun _ => True) [] ?_
 refine tk (i := 1) rfl (by kernel_rfl) rfl trivial (fun _ _ => r_mv (v := .slice _ _ _) rfl) ?_
 refine tk (i := 2) rfl (by kernel_rfl) rfl trivial (fun _ _ => r_sllhN (o + 40) (8) (c - 40) rfl rfl rfl Tryd.underlying30 sz5_1 (by omega) (by omega)) ?_
 refine unfree ?_
 refine holdH H [] ?_
 refine tk (i := 0) rfl (by kernel_rfl) rfl H (fun w' H => r_lw (vs := []) rfl ag128_0 rfl (by simp)) ?_
 refine fk (i := 3) (by kernel_rfl) rfl rfl rfl ?_
 refine cl ca60 (c_uint64 _ _ _ _ (pcs bs (o + 40) 8) (RB.of (b := q) (o := o + 40) (n := 8) H (by omega)) rfl) rfl ?_
 rintro _ w6 ⟨rfl, F⟩
 replace H := H.keep F; clear F
 refine nl ?_
 refine then_n ?_
 refine ⟨H, ?_⟩
 refine tk (i := 4) rfl (by kernel_rfl) rfl H (fun w' H => r_asg (v := .int .u64 _) rfl) ?_
 refine da (by kernel_rfl) ?_
 refine then_n ?_
 refine sq ?_
 refine dr (by kernel_rfl) ?_
 have H := H.drew
 refine hold (fun _ => True) [] ?_
 refine tk (i := 1) rfl (by kernel_rfl) rfl trivial (fun _ _ => r_mv (v := .slice _ _ _) rfl) ?_
 refine tk (i := 2) rfl (by kernel_rfl) rfl trivial (fun _ _ => r_sllhN (o + 48) (8) (c - 48) rfl rfl rfl Tryd.underlying30 sz5_1 (by omega) (by omega)) ?_
 refine unfree ?_
 refine holdH H [] ?_
 refine tk (i := 0) rfl (by kernel_rfl) rfl H (fun w' H => r_lw (vs := []) rfl ag128_0 rfl (by simp)) ?_
 refine fk (i := 3) (by kernel_rfl) rfl rfl rfl ?_
 refine cl ca60 (c_uint64 _ _ _ _ (pcs bs (o + 48) 8) (RB.of (b := q) (o := o + 48) (n := 8) H (by omega)) rfl) rfl ?_
 rintro _ w7 ⟨rfl, F⟩
 replace H := H.keep F; clear F
 refine nl ?_
 refine then_n ?_
 refine ⟨H, ?_⟩
 refine tk (i := 4) rfl (by kernel_rfl) rfl H (fun w' H => r_asg (v := .int .u64 _) rfl) ?_
 refine da (by kernel_rfl) ?_
 refine then_n ?_
 refine sq ?_
 refine rg ?_
 refine mv (v := .slice _ _ _) rfl rfl ?_
 refine sllhN (o + 56) (16) (c - 56) rfl rfl rfl Tryd.underlying30 sz5_1 (by omega) (by omega) rfl ?_
 refine cl ca62 (c_toUUID _ (some ⟨q, o + 56, none⟩) 16 _ (pcs bs (o + 56) 16) (RB.of (b := q) (o := o + 56) (n := 16) H (by omega)) rfl (by omega) ⟨_, _, rfl⟩) rfl ?_
 rintro _ w8 ⟨b2, cq2, jk2, rfl, hb2, ho2, F⟩
 replace H := H.new F hb2 ho2; clear F ho2
 refine cl ca61 (c_fromBytes _ _ _ _ (permB (pcs bs (o + 56) 16)) (RB.bj H (permB_len _)) rfl) rfl ?_
 rintro _ w9 ⟨rfl, F⟩
 replace H := H.keep F; clear F
 refine mv (v := .tuple _) rfl rfl ?_
 refine xt rfl rfl rfl ?_
 refine xt rfl rfl rfl ?_
 refine al H ze130 rfl ?_
 clear H; intro b3 w10 hb3 H _
 refine sa (cs' := Bs (permB (pcs bs (o + 56) 16))) H rfl rfl ag130_16 (by rw [Bs_length, permB_len]) (List.all_eq_true.2 Bs_one) (by decide) (by omega) (List.append_nil _) ?_
 clear H; intro w91 H _
 refine asg (v := .nilIface) rfl rfl ?_
 refine nl ?_
 refine then_n ?_
 refine sq ?_
 refine sq ?_
 refine rg ?_
 refine mv (v := .nilIface) rfl rfl ?_
 refine neqI0 rfl Tryd.underlying74 rfl ?_
 refine nl ?_
 refine then_n ?_
 refine cbF rfl rfl ?_
 refine sk ?_
 refine then_n ?_
 refine sq ?_
 refine dr (by kernel_rfl) ?_
 have H := H.drew
 refine hold (fun _ => True) [] ?_
 refine tk (i := 1) rfl (by kernel_rfl) rfl trivial (fun _ _ => r_mv (v := .slice _ _ _) rfl) ?_
 refine tk (i := 2) rfl (by kernel_rfl) rfl trivial (fun _ _ => r_sllhN (o + 72) (8) (c - 72) rfl rfl rfl Tryd.underlying30 sz5_1 (by omega) (by omega)) ?_
 refine unfree ?_
 refine holdH H [] ?_
 refine tk (i := 0) rfl (by kernel_rfl) rfl H (fun w' H => r_lw (vs := []) rfl ag128_0 rfl (by simp)) ?_
 refine fk (i := 3) (by kernel_rfl) rfl rfl rfl ?_
 refine cl ca60 (c_uint64 _ _ _ _ (pcs bs (o + 72) 8) (RB.of (b := q) (o := o + 72) (n := 8) H (by omega)) rfl) rfl ?_
 rintro _ w11 ⟨rfl, F⟩
 replace H := H.keep F; clear F
 refine nl ?_
 refine then_n ?_
 refine ⟨H, ?_⟩
 refine tk (i := 4) rfl (by kernel_rfl) rfl H (fun w' H => r_asg (v := .int .u64 _) rfl) ?_
 refine da (by kernel_rfl) ?_
 refine then_n ?_
 refine sq ?_
 refine dr (by kernel_rfl) ?_
 have H := H.drew
 refine hold (fun _ => True) [] ?_
 refine tk (i := 1) rfl (by kernel_rfl) rfl trivial (fun _ _ => r_mv (v := .slice _ _ _) rfl) ?_
 refine tk (i := 2) rfl (by kernel_rfl) rfl trivial (fun _ _ => r_sllhN (o + 80) (4) (c - 80) rfl rfl rfl Tryd.underlying30 sz5_1 (by omega) (by omega)) ?_
 refine unfree ?_
 refine holdH H [] ?_
 refine tk (i := 0) rfl (by kernel_rfl) rfl H (fun w' H => r_lw (vs := []) rfl ag128_0 rfl (by simp)) ?_
 refine fk (i := 3) (by kernel_rfl) rfl rfl rfl ?_
 refine cl ca59 (c_uint32 _ _ _ _ (pcs bs (o + 80) 4) (RB.of (b := q) (o := o + 80) (n := 4) H (by omega)) rfl) rfl ?_
 rintro _ w12 ⟨rfl, F⟩
 replace H := H.keep F; clear F
 refine nl ?_
 refine then_n ?_
 refine ⟨H, ?_⟩
 refine tk (i := 4) rfl (by kernel_rfl) rfl H (fun w' H => r_asg (v := .int .u32 _) rfl) ?_
 refine da (by kernel_rfl) ?_
 refine then_n ?_
 refine sq ?_
 refine dr (by kernel_rfl) ?_
 have H := H.drew
 refine hold (fun _ => True) [] ?_
 refine tk (i := 1) rfl (by kernel_rfl) rfl trivial (fun _ _ => r_mv (v := .slice _ _ _) rfl) ?_
 refine tk (i := 2) rfl (by kernel_rfl) rfl trivial (fun _ _ => r_sllhN (o + 84) (4) (c - 84) rfl rfl rfl Tryd.underlying30 sz5_1 (by omega) (by omega)) ?_
 refine unfree ?_
 refine holdH H [] ?_
 refine tk (i := 0) rfl (by kernel_rfl) rfl H (fun w' H => r_lw (vs := []) rfl ag128_0 rfl (by simp)) ?_
 refine fk (i := 3) (by kernel_rfl) rfl rfl rfl ?_
 refine cl ca59 (c_uint32 _ _ _ _ (pcs bs (o + 84) 4) (RB.of (b := q) (o := o + 84) (n := 4) H (by omega)) rfl) rfl ?_
 rintro _ w13 ⟨rfl, F⟩
 replace H := H.keep F; clear F
 refine nl ?_
 refine then_n ?_
 refine ⟨H, ?_⟩
 refine tk (i := 4) rfl (by kernel_rfl) rfl H (fun w' H => r_asg (v := .int .u32 _) rfl) ?_
 refine da (by kernel_rfl) ?_
 refine then_n ?_
 refine sq ?_
 refine dr (by kernel_rfl) ?_
 have H := H.drew
 refine hold (fun _ => True) [] ?_
 refine tk (i := 1) rfl (by kernel_rfl) rfl trivial (fun _ _ => r_mv (v := .slice _ _ _) rfl) ?_
 refine tk (i := 2) rfl (by kernel_rfl) rfl trivial (fun _ _ => r_sllhN (o + 88) (4) (c - 88) rfl rfl rfl Tryd.underlying30 sz5_1 (by omega) (by omega)) ?_
 refine unfree ?_
 refine holdH H [] ?_
 refine tk (i := 0) rfl (by kernel_rfl) rfl H (fun w' H => r_lw (vs := []) rfl ag128_0 rfl (by simp)) ?_
 refine fk (i := 3) (by kernel_rfl) rfl rfl rfl ?_
 refine cl ca59 (c_uint32 _ _ _ _ (pcs bs (o + 88) 4) (RB.of (b := q) (o := o + 88) (n := 4) H (by omega)) rfl) rfl ?_
 rintro _ w14 ⟨rfl, F⟩
 replace H := H.keep F; clear F
 refine nl ?_
 refine then_n ?_
 refine ⟨H, ?_⟩
 refine tk (i := 4) rfl (by kernel_rfl) rfl H (fun w' H => r_asg (v := .int .u32 _) rfl) ?_
 refine da (by kernel_rfl) ?_
 refine then_n ?_
 refine sq ?_
 refine rg ?_
 refine mv (v := .slice _ _ _) rfl rfl ?_
 refine sllhN (o + 16) (4) (c - 16) rfl rfl rfl Tryd.underlying30 sz5_1 (by omega) (by omega) rfl ?_
 refine bsl (sz := 1) (out := ?o1) H Tryd.underlying30 ze5 sz5_1 (by decide) ?f1 rfl ?_
 case f1 =>
  refine FS.one (v := .int .u8 _) rfl rfl rfl (by first | decide | simp) ?_
  refine FS.one (v := .int .u8 _) rfl rfl rfl (by first | decide | simp) ?_
  refine FS.one (v := .int .u8 _) rfl rfl rfl (by first | decide | simp) ?_
  refine FS.one (v := .int .u8 _) rfl rfl rfl (by first | decide | simp) ?_
  exact FS.nil
 clear H; intro b4 w15 hb4 H F
 refine cpP (bs := [0, 0, 0, 0]) H rfl rfl Tryd.underlying30 sz5_1 (RB.allL [0, 0, 0, 0] H rfl) (by decide) (by omega) (by omega) rfl ?_
 clear H; intro w16 H _ hlen
 refine nl ?_
 refine then_n ?_
 refine sq ?_
 refine sq ?_
 refine rg ?_
 refine mv (v := .slice _ _ _) rfl rfl ?_
 refine cl ca64 (c_getSig _) rfl ?_
 rintro _ w17 ⟨b5, rfl, hb5, ho5, F⟩
 replace H := H.new F hb5 ho5; clear F ho5
 refine cl ca63 (c_bytesEqual _ _ _ _ _ _ _ (pcs bs (o + 0) 8) efiL (by have e := RB.of (b := q) (o := o + 0) (n := 8) H (by rw [zero_len h92]; omega); rw [zero_lt h92 (by omega)] at e; exact e) (RB.allL efiL H rfl)) rfl ?_
 rintro _ w18 ⟨rfl, F⟩
 replace H := H.keep F; clear F
 refine unot rfl rfl ?_
 refine nl ?_
 refine then_n ?_
 refine cn rfl (fun hc2 => ?_) (fun hc2 => ?_)
 ·refine sq ?_
  refine rg ?_
  refine cl ca49 (c_errNew _ _) rfl ?_
  rintro _ w19 ⟨⟨be6, rfl⟩, F⟩
  replace H := H.keep F; clear F
  refine asg (v := .pointer _) rfl rfl ?_
  refine asg (v := .iface _ _) rfl rfl ?_
  refine nl ?_
  refine then_n ?_
  refine rt ?_
  refine then_r ?_
  refine fin_r ?_
  refine ⟨H.fr, H.look, .inr ⟨?_, _, rfl⟩⟩
  unfold hdrGood sigOk crcOk
  simp only [Nat.add_zero] at *
  simp_all [fld]
 ·refine sk ?_
  refine then_n ?_
  refine sq ?_
  refine sq ?_
  refine rg ?_
  refine mv (v := .slice _ _ _) rfl rfl ?_
  refine cl ca65 (c_getRev _) rfl ?_
  rintro _ w20 ⟨b7, rfl, hb7, ho7, F⟩
  replace H := H.new F hb7 ho7; clear F ho7
  refine cl ca63 (c_bytesEqual _ _ _ _ _ _ _ (pcs bs (o + 8) 4) [0, 0, 1, 0] (by have e := RB.of (b := q) (o := o + 8) (n := 4) H (by rw [zero_len h92]; omega); rw [zero_lt h92 (by omega)] at e; exact e) (RB.allL [0, 0, 1, 0] H rfl)) rfl ?_
  rintro _ w21 ⟨rfl, F⟩
  replace H := H.keep F; clear F
  refine unot rfl rfl ?_
  refine nl ?_
  refine then_n ?_
  refine cn rfl (fun hc3 => ?_) (fun hc3 => ?_)
  ·refine sq ?_
   refine rg ?_
   refine cl ca49 (c_errNew _ _) rfl ?_
   rintro _ w22 ⟨⟨be8, rfl⟩, F⟩
   replace H := H.keep F; clear F
   refine asg (v := .pointer _) rfl rfl ?_
   refine asg (v := .iface _ _) rfl rfl ?_
   refine nl ?_
   refine then_n ?_
   refine rt ?_
   refine then_r ?_
   refine fin_r ?_
   refine ⟨H.fr, H.look, .inr ⟨?_, _, rfl⟩⟩
   unfold hdrGood sigOk crcOk
   simp only [Nat.add_zero] at *
   simp_all [fld]
  ·refine sk ?_
   refine then_n ?_
   refine sq ?_
   refine sq ?_
   refine rg ?_
   refine mv (v := .slice _ _ _) rfl rfl ?_
   refine cl ca66 (c_getHs _) rfl ?_
   rintro _ w23 ⟨b9, rfl, hb9, ho9, F⟩
   replace H := H.new F hb9 ho9; clear F ho9
   refine cl ca63 (c_bytesEqual _ _ _ _ _ _ _ (pcs bs (o + 12) 4) [92, 0, 0, 0] (by have e := RB.of (b := q) (o := o + 12) (n := 4) H (by rw [zero_len h92]; omega); rw [zero_lt h92 (by omega)] at e; exact e) (RB.allL [92, 0, 0, 0] H rfl)) rfl ?_
   rintro _ w24 ⟨rfl, F⟩
   replace H := H.keep F; clear F
   refine unot rfl rfl ?_
   refine nl ?_
   refine then_n ?_
   refine cn rfl (fun hc4 => ?_) (fun hc4 => ?_)
   ·refine sq ?_
    refine rg ?_
    refine cl ca49 (c_errNew _ _) rfl ?_
    rintro _ w25 ⟨⟨be10, rfl⟩, F⟩
    replace H := H.keep F; clear F
    refine asg (v := .pointer _) rfl rfl ?_
    refine asg (v := .iface _ _) rfl rfl ?_
    refine nl ?_
    refine then_n ?_
    refine rt ?_
    refine then_r ?_
    refine fin_r ?_
    refine ⟨H.fr, H.look, .inr ⟨?_, _, rfl⟩⟩
    unfold hdrGood sigOk crcOk
    simp only [Nat.add_zero] at *
    simp_all [fld]
   ·refine sk ?_
    refine then_n ?_
    refine sq ?_
    refine sq ?_
    refine rg ?_
    refine mv (v := .slice _ _ _) rfl rfl ?_
    refine cl ca67 (c_getZ _) rfl ?_
    rintro _ w26 ⟨b11, rfl, hb11, ho11, F⟩
    replace H := H.new F hb11 ho11; clear F ho11
    refine cl ca63 (c_bytesEqual _ _ _ _ _ _ _ (pcs bs (o + 20) 4) [0, 0, 0, 0] (by have e := RB.of (b := q) (o := o + 20) (n := 4) H (by rw [zero_len h92]; omega); rw [zero_gt h92 (by omega)] at e; exact e) (RB.allL [0, 0, 0, 0] H rfl)) rfl ?_
    rintro _ w27 ⟨rfl, F⟩
    replace H := H.keep F; clear F
    refine unot rfl rfl ?_
    refine nl ?_
    refine then_n ?_
    refine cn rfl (fun hc5 => ?_) (fun hc5 => ?_)
    ·refine sq ?_
     refine rg ?_
     refine cl ca49 (c_errNew _ _) rfl ?_
     rintro _ w28 ⟨⟨be12, rfl⟩, F⟩
     replace H := H.keep F; clear F
     refine asg (v := .pointer _) rfl rfl ?_
     refine asg (v := .iface _ _) rfl rfl ?_
     refine nl ?_
     refine then_n ?_
     refine rt ?_
     refine then_r ?_
     refine fin_r ?_
     refine ⟨H.fr, H.look, .inr ⟨?_, _, rfl⟩⟩
     unfold hdrGood sigOk crcOk
     simp only [Nat.add_zero] at *
     simp_all [fld]
    ·refine sk ?_
     refine then_n ?_
     refine sq ?_
     refine rg ?_
     refine mv (v := .slice _ _ _) rfl rfl ?_
     refine sllhN (o + 0) (92) (c - 0) rfl rfl rfl Tryd.underlying30 sz5_1 (by omega) (by omega) rfl ?_
     refine cl ca68 (c_zzCrc _ _ _ _ (zHdr (pcs bs o 92)) (by have e := RB.of (b := q) (o := o + 0) (n := 92) H (by rw [zero_len h92]; omega); rw [Nat.add_zero, zero_all h92] at e; exact e) (by decide)) rfl ?_
     rintro _ w29 ⟨rfl, F⟩
     replace H := H.keep F; clear F
     refine asg (v := .int .u32 _) rfl rfl ?_
     refine nl ?_
     refine then_n ?_
     refine sq ?_
     refine sq ?_
     refine rg ?_
     refine mv (v := .int .u32 _) rfl rfl ?_
     refine mv (v := .int .u32 _) rfl rfl ?_
     refine neq rfl rfl rfl ?_
     refine nl ?_
     refine then_n ?_
     refine cd rfl (fun hc6 => ?_) (fun hc6 => ?_)
     ·refine sq ?_
      refine rg ?_
      refine cl ca49 (c_errNew _ _) rfl ?_
      rintro _ w30 ⟨⟨be13, rfl⟩, F⟩
      replace H := H.keep F; clear F
      refine asg (v := .pointer _) rfl rfl ?_
      refine asg (v := .iface _ _) rfl rfl ?_
      refine nl ?_
      refine then_n ?_
      refine rt ?_
      refine then_r ?_
      refine fin_r ?_
      refine ⟨H.fr, H.look, .inr ⟨?_, _, rfl⟩⟩
      unfold hdrGood sigOk crcOk
      simp only [Nat.add_zero] at *
      simp_all [fld]
      exact decide_eq_false (fun h => hc6 h.symm)
     ·refine sk ?_
      refine then_n ?_
      refine sq ?_
      refine rg ?_
      refine mv (v := .int .u32 _) rfl rfl ?_
      refine mv (v := .int .u64 _) rfl rfl ?_
      refine mv (v := .int .u64 _) rfl rfl ?_
      refine mv (v := .int .u64 _) rfl rfl ?_
      refine mv (v := .int .u64 _) rfl rfl ?_
      refine mv (v := .int .u32 _) rfl rfl ?_
      refine cvi rfl rfl Tryd.underlying3 (by first | exact w_i64 (by omega) | exact w_i64 (rng_i64 _) | rfl) rfl ?_
      refine mv (v := .int .u64 _) rfl rfl ?_
      refine la (vs := Bs (permB (pcs bs (o + 56) 16))) H rfl ag130_16 (by rw [Bs_length, permB_len]) (by rw [List.drop_zero, List.take_of_length_le (by rw [Bs_length, permB_len]; decide)]) rfl ?_
      refine cl ca70 (c_uuString _ _ (permB_len _)) rfl ?_
      rintro _ w31 ⟨rfl, F⟩
      replace H := H.keep F; clear F
      refine cl ca69 (c_upper _ _ (by have := sTp_len (permB (pcs bs (o + 56) 16)) 16; unfold sT; omega)) rfl ?_
      rintro _ w32 ⟨rfl, F⟩
      replace H := H.keep F; clear F
      rw [up_sT hp16]
      refine mv (v := .int .u32 _) rfl rfl ?_
      refine bu (out := ?o2) ze99 bo99 ?f2 rfl ?_
      case f2 =>
       refine FL.one (v := .int .u32 _) rfl pl99_7 rfl (by first | decide | simp) ?_
       refine FL.one (v := .int .u64 _) rfl pl99_10 rfl (by first | decide | simp) ?_
       refine FL.one (v := .int .u64 _) rfl pl99_11 rfl (by first | decide | simp) ?_
       refine FL.one (v := .int .u64 _) rfl pl99_12 rfl (by first | decide | simp) ?_
       refine FL.one (v := .int .u64 _) rfl pl99_13 rfl (by first | decide | simp) ?_
       refine FL.one (v := .int .i64 _) rfl pl99_6 rfl (by first | decide | simp) ?_
       refine FL.one (v := .int .u64 _) rfl pl99_8 rfl (by first | decide | simp) ?_
       refine FL.one (v := .string _) rfl pl99_3 rfl (by first | decide | simp) ?_
       refine FL.one (v := .int .u32 _) rfl pl99_9 rfl (by first | decide | simp) ?_
       exact FL.nil
      refine al H ze99 rfl ?_
      clear H; intro b14 w33 hb14 H _
      refine sa H rfl rfl ag99_15 rfl rfl (by decide) (by omega) rfl ?_
      clear H; intro w34 H _
      refine nl ?_
      refine then_n ?_
      refine sq ?_
      refine rg ?_
      refine asg (v := .pointer _) rfl rfl ?_
      refine asg (v := .nilIface) rfl rfl ?_
      refine nl ?_
      refine then_n ?_
      refine rt ?_
      refine fin_r ?_
      replace H := sh_cells0 (cs' := [.slice none 0 0, .int .i64 0, .int .i64 0, .string (str (gT (pcs bs (o + 56) 16))), .bool false, .bool false, .int .i64 (fld bs (o + 80) 4), .int .u32 (fld bs (o + 84) 4), .int .u64 (fld bs (o + 72) 8), .int .u32 (fld bs (o + 88) 4), .int .u64 (fld bs (o + 24) 8), .int .u64 (fld bs (o + 32) 8), .int .u64 (fld bs (o + 40) 8), .int .u64 (fld bs (o + 48) 8), .bool false]) H rfl
      refine ⟨H.fr, H.look, .inl ⟨?_, _, rfl, H.ge1 rfl (y := ⟨q, _, true⟩) (by repeat (first | exact .head _ | apply List.Mem.tail)) rfl, H.look⟩⟩
      unfold hdrGood sigOk crcOk
      simp only [Nat.add_zero] at *
      simp_all [fld]
end Go.Proofs.YthcaejaaalkglaaDoor.X
/- Walks of functions, printed by a program of this claim. -/
namespace Go.Proofs.YthcaejaaalkglaaDoor.X
set_option linter.unusedVariables false
set_option linter.unusedSimpArgs false
open Go Go.RowKit
namespace PF
theorem ca71 : callable Tryd.prog 71 = true := by kernel_rfl
theorem ca72 : callable Tryd.prog 72 = true := by kernel_rfl
end PF
open PF
set_option maxRecDepth 100000 in
set_option maxHeartbeats 1000000 in
theorem c_zeroMatch (w : World) (B : Option Addr) (n c : Nat) (xs : List UInt8) (hR : RB w B n xs) (hn : n ≤ 1000000000) : Calls Tryd.prog 72 #[.slice B n c] w (Ret fun v w' => v = .bool (zAll xs) ∧ Fr [] w w') := by
 refine enter (fun ρ => ρ 2) Tryd.func72 rfl rfl rfl (res1 rfl) ?_
 have H := SH.nil w
 have hRl := hR.1
 refine sq ?_
 refine rg ?_
 refine asg (v := .bool _) rfl rfl ?_
 refine nl ?_
 refine then_n ?_
 refine sq ?_
 refine sq ?_
 refine rg ?_
 refine mv (v := .slice _ _ _) rfl rfl ?_
 refine lnS rfl Tryd.underlying30 rfl ?_
 refine lss rfl rfl rfl ?_
 refine nl ?_
 refine then_n ?_
 refine cd rfl (fun hc1 => ?_) (fun hc1 => ?_)
 ·refine sq ?_
  refine rg ?_
  refine asg (v := .bool _) rfl rfl ?_
  refine nl ?_
  refine then_n ?_
  refine rt ?_
  refine then_r ?_
  refine fin_r ?_
  exact ⟨congrArg Value.bool (by unfold zAll; exact (decide_eq_true (fun j hj => by omega)).symm), H.fr⟩
 ·refine sk ?_
  refine then_n ?_
  refine sq ?_
  refine sq ?_
  refine rg ?_
  refine mv (v := .slice _ _ _) rfl rfl ?_
  refine lnS rfl Tryd.underlying30 rfl ?_
  refine mv (v := .int .i64 _) rfl rfl ?_
  refine nl ?_
  refine then_n ?_
  refine bk ?_
  refine lpM (α := Nat) [2, 4, 10, 11, 12, 13, 14, 15, 16] (fun i => [(10, .int .i64 (i : Int))]) (fun i w' => i ≤ n ∧ (∀ j, j < i → (xs.getD j 0).toNat = 0) ∧ SH w [] w' []) (fun i => n - i) 0 ?_ (fCX (fN _)) ?_
  ·exact ⟨by omega, fun j hj => by omega, H⟩
  ·rintro i ρx w1 ⟨hi, hz, H⟩
   refine sq ?_
   refine rg ?_
   refine lss rfl rfl rfl ?_
   refine nl ?_
   refine then_n ?_
   refine sq ?_
   refine cd rfl (fun hc2 => ?_) (fun hc2 => ?_)
   ·obtain ⟨ad, rfl, hcell⟩ := hR.2 i (by omega)
    have hcell := H.fr.cell hcell (by simp)
    refine sk ?_
    refine then_n ?_
    refine sq ?_
    refine bk ?_
    refine sq ?_
    refine rg ?_
    refine iA rfl rfl Tryd.underlying30 sz5_1 (by omega) rfl ?_
    refine lc rfl (by first | assumption | exact H.fr.cell (by assumption) (by simp)) sc5 rfl ?_
    refine asg (v := .int .u8 _) rfl rfl ?_
    refine nl ?_
    refine then_n ?_
    refine sq ?_
    refine rg ?_
    refine mv (v := .int .u8 _) rfl rfl ?_
    refine neq rfl rfl rfl ?_
    refine nl ?_
    refine then_n ?_
    refine cd rfl (fun hc3 => ?_) (fun hc3 => ?_)
    ·refine sq ?_
     refine rg ?_
     refine asg (v := .bool _) rfl rfl ?_
     refine nl ?_
     refine then_n ?_
     refine rt ?_
     refine in_r ?_
     refine then_r ?_
     refine loop_r ?_
     refine in_r ?_
     refine then_r ?_
     refine fin_r ?_
     exact ⟨congrArg Value.bool (by unfold zAll; exact (decide_eq_false (fun h => by have := h i (by omega); omega)).symm), H.fr⟩
    ·refine sk ?_
     refine in_n ?_
     refine then_n ?_
     refine rg ?_
     refine add rfl rfl (by first | exact w_i64 (by omega) | exact w_i64 (rng_i64 _) | rfl) rfl ?_
     refine mv (v := .int .i64 _) rfl rfl ?_
     refine nl ?_
     refine loop_n ?_
     exact ⟨i + 1, (by (try dsimp only); omega), ⟨by omega, zAll_next hz (by omega), H⟩, (fCX (fN _)), agX⟩
   ·refine ex ?_
    refine then_e ?_
    refine loop_e ?_
    refine in_hit rfl ?_
    refine then_n ?_
    refine sq ?_
    refine rg ?_
    refine asg (v := .bool _) rfl rfl ?_
    refine nl ?_
    refine then_n ?_
    refine rt ?_
    refine fin_r ?_
    exact ⟨congrArg Value.bool (by unfold zAll; exact (decide_eq_true (fun j hj => hz j (by omega))).symm), H.fr⟩
set_option maxRecDepth 100000 in
set_option maxHeartbeats 1000000 in
theorem c_readProt (w : World) (q o c : Nat) (bs : List UInt8) (m : Int) (hR : RB w (some ⟨q, o, none⟩) 512 bs) (hc : 512 ≤ c) : Calls Tryd.prog 56 #[.slice (some ⟨q, o, none⟩) 512 c, .int .u32 m] w (Ret fun v w' => v = .bool (protB bs m) ∧ Fr [] w w') := by
 refine enter (fun ρ => ρ 4) Tryd.func56 rfl rfl rfl (res1 rfl) ?_
 have H := SH.nil w
 have hRl := hR.1
 have h446 := hR.at 446 (by decide)
 rw [Addr.add_lit] at h446
 have h450 := hR.at 450 (by decide)
 rw [Addr.add_lit] at h450
 refine sq ?_
 refine rg ?_
 refine asg (v := .bool _) rfl rfl ?_
 refine nl ?_
 refine then_n ?_
 refine sq ?_
 refine rg ?_
 refine mv (v := .slice _ _ _) rfl rfl ?_
 refine lnS rfl Tryd.underlying30 rfl ?_
 refine asg (v := .int .i64 _) rfl rfl ?_
 refine nl ?_
 refine then_n ?_
 refine sq ?_
 refine sq ?_
 refine rg ?_
 refine mv (v := .int .i64 _) rfl rfl ?_
 refine lss rfl rfl rfl ?_
 refine nl ?_
 refine then_n ?_
 refine cF rfl (by omega) ?_
 refine sk ?_
 refine then_n ?_
 refine sq ?_
 refine sq ?_
 refine dr (by kernel_rfl) ?_
 have H := H.drew
 refine hold (fun _ => True) [] ?_
 refine tk (i := 0) rfl (by kernel_rfl) rfl trivial (fun _ _ => r_mv (v := .slice _ _ _) rfl) ?_
 refine tk (i := 1) rfl (by kernel_rfl) rfl trivial (fun _ _ => r_mv (v := .int .i64 _) rfl) ?_
 refine tk (i := 2) rfl (by kernel_rfl) rfl trivial (fun _ _ => r_sub rfl rfl (by first | exact w_i64 (by omega) | exact w_i64 (rng_i64 _) | rfl)) ?_
 refine tk (i := 3) rfl (by kernel_rfl) rfl trivial (fun _ _ => r_sllN (o + 510) (2) (c - 510) rfl rfl Tryd.underlying30 sz5_1 (by omega) (by omega)) ?_
 refine unfree ?_
 refine fo (i := 4) (by kernel_rfl) rfl rfl ?_
 refine cl ca71 (c_getMs _) rfl ?_
 rintro _ w1 ⟨b1, rfl, hb1, ho1, F⟩
 replace H := H.new F hb1 ho1; clear F ho1
 refine nl ?_
 refine then_n ?_
 refine fo (i := 5) (by kernel_rfl) rfl rfl ?_
 refine cl ca63 (c_bytesEqual _ _ _ _ _ _ _ (pcs bs 510 2) [85, 170] (((hR.keep H.fr).drop (k := 510) (by decide)).take (k := 2) (by decide)) (RB.allL [85, 170] H rfl)) rfl ?_
 rintro _ w2 ⟨rfl, F⟩
 replace H := H.keep F; clear F
 refine nl ?_
 refine then_n ?_
 refine holdH H [] ?_
 refine tk (i := 6) rfl (by kernel_rfl) rfl H (fun w' H => r_unot rfl) ?_
 refine da (by kernel_rfl) ?_
 refine then_n ?_
 refine cn rfl (fun hc2 => ?_) (fun hc2 => ?_)
 ·refine sq ?_
  refine rg ?_
  refine asg (v := .bool _) rfl rfl ?_
  refine nl ?_
  refine then_n ?_
  refine rt ?_
  refine then_r ?_
  refine fin_r ?_
  refine ⟨congrArg Value.bool ?_, H.fr⟩
  unfold protB
  have e : pcs bs 510 2 ≠ [85, 170] := by simpa using hc2
  rw [decide_eq_false e]; rfl
 ·refine sk ?_
  refine then_n ?_
  refine sq ?_
  refine rg ?_
  refine mv (v := .slice _ _ _) rfl rfl ?_
  refine sllhN (o + 446) (64) (c - 446) rfl rfl rfl Tryd.underlying30 sz5_1 (by omega) (by omega) rfl ?_
  refine asg (v := .slice _ _ _) rfl rfl ?_
  refine nl ?_
  refine then_n ?_
  refine sq ?_
  refine sq ?_
  refine rg ?_
  refine asg (v := .int .i64 _) rfl rfl ?_
  refine nl ?_
  refine then_n ?_
  refine bk ?_
  refine lpM (α := Nat) [4, 7, 21, 22, 23, 24, 25, 26, 27, 28, 29, 30, 31, 32, 33] (fun i => [(7, .int .i64 (i : Int))]) (fun i w' => 1 ≤ i ∧ i ≤ 4 ∧ (∀ j, j + 1 < i → zAll (pcs bs (462 + 16 * j) 16) = true) ∧ SH w [] w' []) (fun i => 4 - i) 1 ?_ (fCX (fN _)) ?_
  ·exact ⟨by omega, by omega, fun j h1 => by omega, H.subX⟩
  ·rintro i ρx w3 ⟨hi1, hi, hz, H⟩
   refine sq ?_
   refine sq ?_
   refine rg ?_
   refine mv (v := .int .i64 _) rfl rfl ?_
   refine lss rfl rfl rfl ?_
   refine nl ?_
   refine then_n ?_
   refine cd rfl (fun hc3 => ?_) (fun hc3 => ?_)
   ·refine sk ?_
    refine then_n ?_
    refine sq ?_
    refine bk ?_
    refine sq ?_
    refine rg ?_
    refine mv (v := .slice _ _ _) rfl rfl ?_
    refine mv (v := .int .i64 _) rfl rfl ?_
    refine mul rfl rfl (by first | exact w_i64 (by omega) | exact w_i64 (rng_i64 _) | rfl) rfl ?_
    refine mv (v := .int .i64 _) rfl rfl ?_
    refine add rfl rfl (by first | exact w_i64 (by omega) | exact w_i64 (rng_i64 _) | rfl) rfl ?_
    refine mul rfl rfl (by first | exact w_i64 (by omega) | exact w_i64 (rng_i64 _) | rfl) rfl ?_
    refine sllhN (o + (446 + 16 * i)) (16) (c - (446 + 16 * i)) rfl rfl rfl Tryd.underlying30 sz5_1 (by omega) (by omega) rfl ?_
    refine cl ca72 (c_zeroMatch _ (some ⟨q, o + (446 + 16 * i), none⟩) 16 _ (pcs bs (446 + 16 * i) 16) (((hR.keep H.fr).drop (k := 446 + 16 * i) (by omega)).take (k := 16) (by omega)) (by decide)) rfl ?_
    rintro _ w4 ⟨rfl, F⟩
    replace H := H.keep F; clear F
    refine unot rfl rfl ?_
    refine nl ?_
    refine then_n ?_
    refine cn rfl (fun hc4 => ?_) (fun hc4 => ?_)
    ·refine sq ?_
     refine rg ?_
     refine asg (v := .bool _) rfl rfl ?_
     refine nl ?_
     refine then_n ?_
     refine rt ?_
     refine in_r ?_
     refine then_r ?_
     refine loop_r ?_
     refine in_r ?_
     refine then_r ?_
     refine fin_r ?_
     refine ⟨congrArg Value.bool ?_, H.fr⟩
     unfold protB
     rw [rec3_f ⟨by omega, by omega⟩ (by simpa using hc4)]; simp
    ·refine sk ?_
     refine in_n ?_
     refine then_n ?_
     refine rg ?_
     refine mv (v := .int .i64 _) rfl rfl ?_
     refine add rfl rfl (by first | exact w_i64 (by omega) | exact w_i64 (rng_i64 _) | rfl) rfl ?_
     refine asg (v := .int .i64 _) rfl rfl ?_
     refine nl ?_
     refine loop_n ?_
     exact ⟨i + 1, (by (try dsimp only); omega), ⟨by omega, by omega, zRec_next hz (by simpa using hc4), H⟩, (fCX (fN _)), agX⟩
   ·refine ex ?_
    refine then_e ?_
    refine loop_e ?_
    refine in_hit rfl ?_
    refine then_n ?_
    refine sq ?_
    refine sq ?_
    refine rg ?_
    refine mv (v := .slice _ _ _) rfl rfl ?_
    refine iaN (o + 446) rfl rfl Tryd.underlying30 sz5_1 (by omega) (by omega) rfl ?_
    refine lc rfl (by first | assumption | exact H.fr.cell (by assumption) (by simp)) sc5 rfl ?_
    refine neq rfl rfl rfl ?_
    refine nl ?_
    refine then_n ?_
    refine cd rfl (fun hc5 => ?_) (fun hc5 => ?_)
    ·refine sq ?_
     refine rg ?_
     refine asg (v := .bool _) rfl rfl ?_
     refine nl ?_
     refine then_n ?_
     refine rt ?_
     refine then_r ?_
     refine fin_r ?_
     refine ⟨congrArg Value.bool ?_, H.fr⟩
     unfold protB
     rw [decide_eq_false (p := (bs.getD 446 0).toNat = 0) (by omega)]; simp
    ·refine sk ?_
     refine then_n ?_
     refine sq ?_
     refine sq ?_
     refine rg ?_
     refine mv (v := .slice _ _ _) rfl rfl ?_
     refine iaN (o + 450) rfl rfl Tryd.underlying30 sz5_1 (by omega) (by omega) rfl ?_
     refine lc rfl (by first | assumption | exact H.fr.cell (by assumption) (by simp)) sc5 rfl ?_
     refine neq rfl rfl rfl ?_
     refine nl ?_
     refine then_n ?_
     refine cd rfl (fun hc6 => ?_) (fun hc6 => ?_)
     ·refine sq ?_
      refine rg ?_
      refine asg (v := .bool _) rfl rfl ?_
      refine nl ?_
      refine then_n ?_
      refine rt ?_
      refine then_r ?_
      refine fin_r ?_
      refine ⟨congrArg Value.bool ?_, H.fr⟩
      unfold protB
      rw [decide_eq_false (p := (bs.getD 450 0).toNat = 238) (by omega)]; simp
     ·refine sk ?_
      refine then_n ?_
      refine sq ?_
      refine sq ?_
      refine dr (by kernel_rfl) ?_
      have H := H.drew
      refine hold (fun _ => True) [] ?_
      refine tk (i := 1) rfl (by kernel_rfl) rfl trivial (fun _ _ => r_mv (v := .slice _ _ _) rfl) ?_
      refine tk (i := 2) rfl (by kernel_rfl) rfl trivial (fun _ _ => r_sllhN (o + 454) (4) (c - 454) rfl rfl rfl Tryd.underlying30 sz5_1 (by omega) (by omega)) ?_
      refine unfree ?_
      refine holdH H [] ?_
      refine tk (i := 0) rfl (by kernel_rfl) rfl H (fun w' H => r_lw (vs := []) rfl ag128_0 rfl (by simp)) ?_
      refine fk (i := 3) (by kernel_rfl) rfl rfl rfl ?_
      refine cl ca59 (c_uint32 _ _ _ _ (pcs bs 454 4) (((hR.keep H.fr).drop (k := 454) (by decide)).take (k := 4) (by decide)) rfl) rfl ?_
      rintro _ w5 ⟨rfl, F⟩
      replace H := H.keep F; clear F
      refine nl ?_
      refine then_n ?_
      refine ⟨H, ?_⟩
      refine tk (i := 4) rfl (by kernel_rfl) rfl H (fun w' H => r_neq rfl rfl) ?_
      refine da (by kernel_rfl) ?_
      refine then_n ?_
      refine cd rfl (fun hc7 => ?_) (fun hc7 => ?_)
      ·refine sq ?_
       refine rg ?_
       refine asg (v := .bool _) rfl rfl ?_
       refine nl ?_
       refine then_n ?_
       refine rt ?_
       refine then_r ?_
       refine fin_r ?_
       refine ⟨congrArg Value.bool ?_, H.fr⟩
       unfold protB
       rw [decide_eq_false (p := fld bs 454 4 = 1) (by assumption)]; simp
      ·refine sk ?_
       refine then_n ?_
       refine sq ?_
       refine sq ?_
       refine dr (by kernel_rfl) ?_
       have H := H.drew
       refine hold (fun _ => True) [] ?_
       refine tk (i := 1) rfl (by kernel_rfl) rfl trivial (fun _ _ => r_mv (v := .slice _ _ _) rfl) ?_
       refine tk (i := 2) rfl (by kernel_rfl) rfl trivial (fun _ _ => r_sllhN (o + 458) (4) (c - 458) rfl rfl rfl Tryd.underlying30 sz5_1 (by omega) (by omega)) ?_
       refine tk (i := 4) rfl (by kernel_rfl) rfl trivial (fun _ _ => r_mv (v := .int .u32 _) rfl) ?_
       refine unfree ?_
       refine holdH H [] ?_
       refine tk (i := 0) rfl (by kernel_rfl) rfl H (fun w' H => r_lw (vs := []) rfl ag128_0 rfl (by simp)) ?_
       refine fk (i := 3) (by kernel_rfl) rfl rfl rfl ?_
       refine cl ca59 (c_uint32 _ _ _ _ (pcs bs 458 4) (((hR.keep H.fr).drop (k := 458) (by decide)).take (k := 4) (by decide)) rfl) rfl ?_
       rintro _ w6 ⟨rfl, F⟩
       replace H := H.keep F; clear F
       refine nl ?_
       refine then_n ?_
       refine ⟨H, ?_⟩
       refine tk (i := 5) rfl (by kernel_rfl) rfl H (fun w' H => r_neq rfl rfl) ?_
       refine da (by kernel_rfl) ?_
       refine then_n ?_
       refine cd rfl (fun hc8 => ?_) (fun hc8 => ?_)
       ·refine sq ?_
        refine rg ?_
        refine asg (v := .bool _) rfl rfl ?_
        refine nl ?_
        refine then_n ?_
        refine rt ?_
        refine then_r ?_
        refine fin_r ?_
        refine ⟨congrArg Value.bool ?_, H.fr⟩
        unfold protB
        rw [decide_eq_false (p := fld bs 458 4 = m) (by assumption)]; simp
       ·refine sk ?_
        refine then_n ?_
        refine sq ?_
        refine rg ?_
        refine asg (v := .bool _) rfl rfl ?_
        refine nl ?_
        refine then_n ?_
        refine rt ?_
        refine fin_r ?_
        refine ⟨congrArg Value.bool ?_, H.fr⟩
        unfold protB
        obtain rfl : i = 4 := by omega
        have e : pcs bs 510 2 = [85, 170] := by simpa using hc2
        have e1 : fld bs 454 4 = 1 := Classical.not_not.1 (by assumption)
        have e2 : fld bs 458 4 = m := Classical.not_not.1 (by assumption)
        rw [rec3_t hz, decide_eq_true e, decide_eq_true (p := (bs.getD 446 0).toNat = 0) (by omega), decide_eq_true (p := (bs.getD 450 0).toNat = 238) (by omega), decide_eq_true e1, decide_eq_true e2]; rfl
end Go.Proofs.YthcaejaaalkglaaDoor.X
