/- Laws and walks on the road to the statement: GptCut, P60, P61. -/
import Derived.Test.YthcaejaaalkglaaGreatDoorM10
/- A disk on which the stores of a new table have been broken off. -/
namespace Go.Proofs.YthcaejaaalkglaaGreatDoor.X
set_option linter.unusedVariables false
set_option maxRecDepth 100000
open Go Go.RowKit
theorem pAt_at {D xs : List UInt8} {o i : Nat} (h : o + xs.length ≤ D.length) : (pAt D o xs)[i]? = if o ≤ i ∧ i < o + xs.length then xs[i - o]? else D[i]? := by
 unfold pAt
 have ht : (D.take o).length = o := by simp; omega
 by_cases h1 : i < o
 ·rw [if_neg (by omega), List.append_assoc, List.getElem?_append_left (by omega), List.getElem?_take, if_pos h1]
 ·by_cases h2 : i < o + xs.length
  ·rw [if_pos ⟨by omega, h2⟩, List.append_assoc, List.getElem?_append_right (by omega), List.getElem?_append_left (by omega), ht]
  ·rw [if_neg (by omega), List.getElem?_append_right (by simp; omega), List.getElem?_drop]
   congr 1
   simp only [List.length_append, ht]; omega
theorem pcs_get {D : List UInt8} {o k i : Nat} : (pcs D o k)[i]? = if i < k then D[o + i]? else none := by
 unfold pcs; rw [List.getElem?_take]; split <;> simp [List.getElem?_drop]
theorem mix_pcs {D xs z : List UInt8} {A k o l : Nat} (h : A + xs.length ≤ D.length) (hl : o + l ≤ xs.length) (h1 : pcs D (A + o) l = z) (h2 : pcs xs o l = z) : pcs (pAt D A (xs.take k)) (A + o) l = z := by
 subst h1
 refine List.ext_getElem? fun i => ?_
 have e := congrArg (fun m => m[i]?) h2
 simp only [pcs_get] at e ⊢
 by_cases hi : i < l
 ·rw [if_pos hi, if_pos hi] at e
  rw [if_pos hi, if_pos hi, pAt_at (by simp; omega)]
  split
  ·rename_i hc
   rw [List.length_take] at hc
   rw [show A + o + i - A = o + i by omega, List.getElem?_take, if_pos (by omega), e]
  ·rfl
 ·rw [if_neg hi, if_neg hi]
theorem cut_out {D xs : List UInt8} {A k p l : Nat} (h : A + xs.length ≤ D.length) (hp : p + l ≤ A ∨ A + xs.length ≤ p) : pcs (pAt D A (xs.take k)) p l = pcs D p l := by
 rcases hp with hp | hp
 ·exact pcs_lo (by simp; omega) hp
 ·exact pcs_hi (by simp; omega) (by simp; omega)
theorem cut_len {D xs : List UInt8} {A k : Nat} (h : A + xs.length ≤ D.length) : (pAt D A (xs.take k)).length = D.length := pAt_len (by simp; omega)
structure Canon (D : List UInt8) (A : Nat) (a e : Int) : Prop where
 sig : pcs D A 8 = efiL
 rev : pcs D (A + 8) 4 = [0, 0, 1, 0]
 siz : pcs D (A + 12) 4 = [92, 0, 0, 0]
 rsv : pcs D (A + 20) 4 = [0, 0, 0, 0]
 my : pcs D (A + 24) 8 = leB 8 a
 ent : pcs D (A + 72) 8 = leB 8 e
 cnt : pcs D (A + 80) 4 = leB 4 128
 esz : pcs D (A + 84) 4 = leB 4 128
theorem canon_of {D : List UInt8} {A : Nat} {a o e n c : Int} {gu : List UInt8} (h : gu.length = 16) (P : ∀ p k z, p + k ≤ 512 → pcs (hdrB a o e n gu c) p k = z → pcs D (A + p) k = z) : Canon D A a e :=
 ⟨P 0 8 _ (by decide) (hf0 h), P 8 4 _ (by decide) ((hf8 h).trans (by decide)), P 12 4 _ (by decide) ((hf12 h).trans (by decide)), P 20 4 _ (by decide) (hf20 h), P 24 8 _ (by decide) (hf24 h), P 72 8 _ (by decide) (hf72 h), P 80 4 _ (by decide) (hf80 h), P 84 4 _ (by decide) (hf84 h)⟩
theorem canon_laid {D : List UInt8} {A : Nat} {a o e n c : Int} {gu : List UInt8} (hp : pcs D A 512 = hdrB a o e n gu c) (h : gu.length = 16) : Canon D A a e :=
 canon_of h fun p k z hk hz => by rw [← hz, ← hp, pcsA hk]
theorem canon_keep {D D' : List UInt8} {A : Nat} {a e : Int} (C : Canon D A a e) (P : ∀ p k, p + k ≤ 92 → pcs D' (A + p) k = pcs D (A + p) k) : Canon D' A a e :=
 ⟨(P 0 8 (by decide)).trans C.sig, (P 8 4 (by decide)).trans C.rev, (P 12 4 (by decide)).trans C.siz, (P 20 4 (by decide)).trans C.rsv, (P 24 8 (by decide)).trans C.my, (P 72 8 (by decide)).trans C.ent, (P 80 4 (by decide)).trans C.cnt, (P 84 4 (by decide)).trans C.esz⟩
theorem canon_mix {D : List UInt8} {A k : Nat} {a o e n c c' : Int} {gu gu' : List UInt8} (hA : A + 512 ≤ D.length) (hp : pcs D A 512 = hdrB a o e n gu c) (h : gu.length = 16) (h' : gu'.length = 16) : Canon (pAt D A ((hdrB a o e n gu' c').take k)) A a e := by
 have C := canon_laid hp h
 have hl : (hdrB a o e n gu' c').length = 512 := hdrB_len h'
 have M : ∀ p l z, p + l ≤ 512 → pcs D (A + p) l = z → pcs (hdrB a o e n gu' c') p l = z → pcs (pAt D A ((hdrB a o e n gu' c').take k)) (A + p) l = z := fun p l z h1 h2 h3 => mix_pcs (by omega) (by omega) h2 h3
 exact ⟨M 0 8 _ (by decide) C.sig (hf0 h'), M 8 4 _ (by decide) C.rev ((hf8 h').trans (by decide)), M 12 4 _ (by decide) C.siz ((hf12 h').trans (by decide)), M 20 4 _ (by decide) C.rsv (hf20 h'), M 24 8 _ (by decide) C.my (hf24 h'), M 72 8 _ (by decide) C.ent (hf72 h'), M 80 4 _ (by decide) C.cnt (hf80 h'), M 84 4 _ (by decide) C.esz (hf84 h')⟩
section canon
variable {D : List UInt8} {A : Nat} {a e : Int}
theorem le8_back {v : Int} (h : 0 ≤ v ∧ v < 4294967296) : leV (leB 8 v) = v := leV_leB 8 h.1 (by
 have : (256 : Int) ^ 8 = 18446744073709551616 := by decide
 omega)
theorem le4_128 : leV (leB 4 128) = 128 := by decide
theorem Canon.flds (C : Canon D A a e) (ha : 0 ≤ a ∧ a < 4294967296) (he : 0 ≤ e ∧ e < 4294967296) : fld D (A + 24) 8 = a ∧ fld D (A + 72) 8 = e ∧ fld D (A + 80) 4 = 128 ∧ fld D (A + 84) 4 = 128 := by
 unfold fld
 rw [C.my, C.ent, C.cnt, C.esz]
 exact ⟨le8_back ha, le8_back he, le4_128, le4_128⟩
theorem Canon.good (C : Canon D A a e) : hdrGood D A = crcOk D A := by
 unfold hdrGood sigOk
 rw [C.sig, C.rev, C.siz, C.rsv]; simp
end canon
theorem Canon.gat {D : List UInt8} {n a k : Nat} (C : Canon D (a * 512) (a : Int) (k : Int)) (ha : a < 4294967296) (hk : k + 32 ≤ n) (hn : n ≤ 1000000) : gatB D n a = (crcOk D (a * 512) && decide (crc32 (pcs D (k * 512) 16384) = fld D (a * 512 + 88) 4)) := by
 obtain ⟨f1, f2, f3, f4⟩ := C.flds (by omega) (by omega)
 have f5 : fld D (a * 512 + 12) 4 = 92 := by unfold fld; rw [C.siz]; decide
 unfold gatB sigOk
 rw [C.sig, f1, f2, f3, f4, f5, Int.toNat_natCast, decide_eq_true (p := (k : Int) < (n : Int)) (by omega), decide_eq_true (p := 32 ≤ (n : Int) - (k : Int)) (by omega)]
 simp
structure CutS (D : List UInt8) (n : Nat) : Prop where
 len : D.length = n * 512
 c1 : Canon D (1 * 512) (1 : Nat) (2 : Nat)
 c2 : Canon D ((n - 1) * 512) ((n - 1 : Nat) : Int) ((n - 33 : Nat) : Int)
 sg : sigB D = true
 fl : flagsB D
 ok : (gatB D n 1 || gatB D n (n - 1)) = true
def cutG (D : List UInt8) (n : Nat) : List UInt8 := if gatB D n 1 then pcs D 568 16 else pcs D (512 * (n - 1) + 56) 16
def cutA (D : List UInt8) (n : Nat) : List UInt8 := if gatB D n 1 then pcs D 1024 16384 else pcs D (512 * (n - 33)) 16384
section cut
variable {D Z : List UInt8} {n : Nat}
theorem CutS.lens (S : CutS D n) (hn : 80 ≤ n ∧ n ≤ 1000000) : (cutG D n).length = 16 ∧ (cutA D n).length = 16384 := by
 have hl := S.len
 unfold cutG cutA
 constructor
 ·split
  ·exact pcs_len (by omega)
  ·exact pcs_len (by omega)
 ·split
  ·exact pcs_len (by omega)
  ·exact pcs_len (by omega)
theorem CutS.read (S : CutS D n) (hn : 80 ≤ n ∧ n ≤ 1000000) :
  (hdrGood D 512 && decide (fld D 600 4 = crc32 (pcs D 1024 16384))) = gatB D n 1 ∧
  (hdrGood D (512 * (n - 1)) && decide (fld D (512 * (n - 1) + 24) 8 = ((n - 1 : Nat) : Int)) && decide (fld D (512 * (n - 1) + 88) 4 = crc32 (pcs D (512 * (n - 33)) 16384))) = gatB D n (n - 1) ∧
  (hdrGood D 512 = true → fld D 584 8 = 2 ∧ fld D 592 4 = 128 ∧ fld D 596 4 = 128) ∧
  (hdrGood D (512 * (n - 1)) = true → fld D (512 * (n - 1) + 72) 8 = ((n - 33 : Nat) : Int) ∧ fld D (512 * (n - 1) + 80) 4 = 128 ∧ fld D (512 * (n - 1) + 84) 4 = 128) ∧
  fitsB D 512 512 = true ∧ fitsB D 512 (512 * (n - 1)) = true := by
 have e5 : 512 * (n - 1) = (n - 1) * 512 := Nat.mul_comm ..
 have e6 : 512 * (n - 33) = (n - 33) * 512 := Nat.mul_comm ..
 obtain ⟨p1, p2, p3, p4⟩ := S.c1.flds (by omega) (by omega)
 obtain ⟨q1, q2, q3, q4⟩ := S.c2.flds (by omega) (by omega)
 have G1 := S.c1.gat (by omega) (by omega) hn.2
 have G2 := S.c2.gat (n := n) (by omega) (by omega) hn.2
 have g1 := S.c1.good
 have g2 := S.c2.good
 rw [e5, e6]
 refine ⟨?_, ?_, fun _ => ⟨p2, p3, p4⟩, fun _ => ⟨q2, q3, q4⟩, laid_fits (A := 512) (by rw [show fld D (512 + 72) 8 = _ from p2]; decide) p3 p4, laid_fits (by rw [q2]; omega) q3 q4⟩
 ·rw [G1]
  have : decide (fld D 600 4 = crc32 (pcs D 1024 16384)) = decide (crc32 (pcs D (2 * 512) 16384) = fld D (1 * 512 + 88) 4) := decide_eq_decide.2 ⟨Eq.symm, Eq.symm⟩
  rw [this]
  exact congrArg (· && _) g1
 ·rw [G2, g2, q1, decide_eq_true (p := ((n - 1 : Nat) : Int) = ((n - 1 : Nat) : Int)) rfl, Bool.and_true]
  congr 1
  exact decide_eq_decide.2 ⟨Eq.symm, Eq.symm⟩
theorem crc_app {A : Nat} (h : A + 92 ≤ D.length) : crcOk (D ++ Z) A = crcOk D A := by
 unfold crcOk; rw [pcs_app (by omega), fld_app (by omega)]
theorem canon_app {A : Nat} {a e : Int} (h : A + 92 ≤ D.length) (C : Canon D A a e) : Canon (D ++ Z) A a e := canon_keep C fun p k hk => pcs_app (by omega)
theorem CutS.gat (S : CutS D n) (hn : 80 ≤ n ∧ n ≤ 1000000) : gatB (D ++ Z) n 1 = gatB D n 1 ∧ gatB (D ++ Z) n (n - 1) = gatB D n (n - 1) ∧
  fld (D ++ Z) (1 * 512 + 72) 8 = ((2 : Nat) : Int) ∧ fld (D ++ Z) ((n - 1) * 512 + 72) 8 = ((n - 33 : Nat) : Int) ∧
  pcs (D ++ Z) (2 * 512) 16384 = pcs D 1024 16384 ∧ pcs (D ++ Z) ((n - 33) * 512) 16384 = pcs D (512 * (n - 33)) 16384 ∧
  pcs (D ++ Z) (1 * 512 + 56) 16 = pcs D 568 16 ∧ pcs (D ++ Z) ((n - 1) * 512 + 56) 16 = pcs D (512 * (n - 1) + 56) 16 := by
 have hl := S.len
 have C1 := canon_app (Z := Z) (by omega) S.c1
 have C2 := canon_app (Z := Z) (by omega) S.c2
 have e5 : 512 * (n - 1) = (n - 1) * 512 := Nat.mul_comm ..
 have e6 : 512 * (n - 33) = (n - 33) * 512 := Nat.mul_comm ..
 refine ⟨?_, ?_, (C1.flds (by omega) (by omega)).2.1, (C2.flds (by omega) (by omega)).2.1, pcs_app (by omega), ?_, pcs_app (by omega), ?_⟩
 ·rw [C1.gat (by omega) (by omega) hn.2, S.c1.gat (by omega) (by omega) hn.2, crc_app (by omega), pcs_app (by omega), fld_app (by omega)]
 ·rw [C2.gat (by omega) (by omega) hn.2, S.c2.gat (by omega) (by omega) hn.2, crc_app (by omega), pcs_app (by omega), fld_app (by omega)]
 ·rw [e6]; exact pcs_app (by omega)
 ·rw [e5]; exact pcs_app (by omega)
theorem CutS.mbr (S : CutS D n) (hn : 80 ≤ n ∧ n ≤ 1000000) : sigB (D ++ Z) = true ∧ flagsB (D ++ Z) := by
 have hl := S.len
 refine ⟨?_, fun i hi => ?_⟩
 ·have h := S.sg
  unfold sigB at h ⊢
  have e : pcs (D ++ Z) 510 2 = pcs D 510 2 := pcs_app (by omega)
  unfold pcs at e
  rw [e]; exact h
 ·have h := S.fl i hi
  have e : (D ++ Z).getD (446 + 16 * i) 0 = D.getD (446 + 16 * i) 0 := by
   simp only [List.getD_eq_getElem?_getD]
   rw [List.getElem?_append_left (by omega)]
  rw [e]; exact h
end cut
theorem used_ok (ar : List UInt8) (i : Nat) (hi : i ≤ 128) : ∀ q ∈ usedP ar i, q.ok := by
 intro q hq
 unfold usedP at hq
 obtain ⟨j, hj, e⟩ := List.mem_filterMap.1 hq
 have hj := List.mem_range.1 hj
 unfold useP at e
 split at e
 ·cases e
 ·obtain rfl := Option.some.inj e
  exact ⟨by show _ ≤ ((j : Int) + 1) ∧ ((j : Int) + 1) ≤ _; omega, fld_rng8 (by decide), fld_rng8 (by decide), by show 0 ≤ szE _ ∧ szE _ ≤ _; unfold szE; omega, fld_rng8 (by decide)⟩
theorem used_mem {ar : List UInt8} (hl : ar.length = 16384) {q : GP} (hq : q ∈ usedP ar 128) : ∃ x y : List UInt8, x.length = 16 ∧ y.length = 16 ∧ x ≠ List.replicate 16 0 ∧ q.ty = gT x ∧ q.gu = gT y := by
 unfold usedP at hq
 obtain ⟨j, hj, e⟩ := List.mem_filterMap.1 hq
 have hj := List.mem_range.1 hj
 have hel : (entA ar j).length = 128 := pcs_len (by omega)
 unfold useP at e
 split at e
 ·cases e
 ·rename_i hf
  obtain rfl := Option.some.inj e
  refine ⟨pcs (entA ar j) 0 16, pcs (entA ar j) 16 16, pcs_len (by omega), pcs_len (by omega), ?_, rfl, rfl⟩
  unfold freeE at hf
  simpa using hf
theorem used_keep {ar : List UInt8} (hl : ar.length = 16384) : keepP (usedP ar 128) = usedP ar 128 := by
 unfold keepP
 refine List.filter_eq_self.2 fun q hq => ?_
 obtain ⟨x, y, hx, hy, hz, e1, e2⟩ := used_mem hl hq
 have : sameG q.ty zG = false := by
  rw [e1]
  unfold sameG
  rw [gB_gT hx, gB_zG, decide_eq_false hz, Bool.and_false]
 rw [this]; rfl
theorem sameG_self {x : List UInt8} (h : x.length = 16) : sameG (gT x) (gT x) = true := by
 unfold sameG
 rw [(gT_ok h).1]; simp
theorem used_same {ar gu : List UInt8} (hl : ar.length = 16384) (hg : gu.length = 16) : sameT (gT gu) (gT gu) (usedP ar 128) (usedP ar 128) = true := by
 refine sameT_t (sameG_self hg) rfl fun j p q _ h1 h2 => ?_
 rw [h1] at h2
 obtain rfl := Option.some.inj h2
 obtain ⟨x, y, hx, hy, hz, e1, e2⟩ := used_mem hl (List.mem_of_getElem? h1)
 unfold sameP
 rw [e1, e2, sameG_self hx, sameG_self hy]
 simp
theorem gat_laid1 {D : List UInt8} {n : Nat} {g : List UInt8} {ps : List GP} (hn : 80 ≤ n ∧ n ≤ 1000000) (e1 : pcs D 512 512 = encHdr n g ps) (e2 : pcs D 1024 16384 = arrB ps) : gatB D n 1 = true := by
 have hc := hdrS_rng (arrB ps)
 have C := canon_laid (D := D) (A := 512) e1 (gB_len g)
 obtain ⟨p1, p2, p3, p4, p5, p6, p7, p8, p9⟩ := laid_hdr (D := D) (A := 512) e1 (gB_len g) (by decide) (by omega) (by decide) (by omega) hc
 refine gat_of (k := 2) p1 (by rw [show fld D (1 * 512 + 24) 8 = _ from p4]; rfl) p2.2.2 p2.2.1 p2.1 (by omega) ?_
 rw [show pcs D (2 * 512) 16384 = _ from e2]; exact p3.symm
theorem gat_laid2 {D : List UInt8} {n : Nat} {g : List UInt8} {ps : List GP} (hn : 80 ≤ n ∧ n ≤ 1000000) (e1 : pcs D ((n - 1) * 512) 512 = encHdr2 n g ps) (e2 : pcs D ((n - 33) * 512) 16384 = arrB ps) : gatB D n (n - 1) = true := by
 have hc := hdrS_rng (arrB ps)
 obtain ⟨p1, p2, p3, p4, p5, p6, p7, p8, p9⟩ := laid_hdr (D := D) (A := (n - 1) * 512) e1 (gB_len g) (by omega) (by decide) (by omega) (by omega) hc
 refine gat_of (k := n - 33) p1 (by rw [p4]; omega) p2.2.2 p2.2.1 (by rw [p2.1]; omega) (by omega) ?_
 rw [e2]; exact p3.symm
theorem mbr_new {D : List UInt8} {n : Nat} (hn : 80 ≤ n ∧ n ≤ 1000000) (hl : D.length = n * 512) (h : pcs D 446 66 = protT n) : sigB D = true ∧ flagsB D := by
 have hp : protB (pcs D 0 512) ((n : Int) - 1) = true := prot_of2 (by omega) (by rw [pcs0 (by decide), h, protT_eq])
 obtain ⟨h1, h2, _⟩ := prot_mbr (by omega) hp
 exact ⟨h1, h2⟩
theorem canon2_cast {D : List UInt8} {n : Nat} (hn : 80 ≤ n) (C : Canon D ((n - 1) * 512) ((n : Int) - 1) ((n : Int) - 33)) : Canon D ((n - 1) * 512) ((n - 1 : Nat) : Int) ((n - 33 : Nat) : Int) := by
 have e1 : ((n : Int) - 1) = ((n - 1 : Nat) : Int) := by omega
 have e2 : ((n : Int) - 33) = ((n - 33 : Nat) : Int) := by omega
 rw [← e1, ← e2]; exact C
structure OldD (E : List UInt8) (n : Nat) (g : List UInt8) (ps : List GP) : Prop where
 len : E.length = n * 512
 h1 : pcs E 512 512 = encHdr n g ps
 a1 : pcs E 1024 16384 = arrB ps
 a2 : pcs E ((n - 33) * 512) 16384 = arrB ps
 h2 : pcs E ((n - 1) * 512) 512 = encHdr2 n g ps
 pr : protB (pcs E 0 512) ((n : Int) - 1) = true
theorem old_enc {ds : List UInt8} {n : Nat} {g : List UInt8} {ps : List GP} (hn : 80 ≤ n ∧ n ≤ 1000000) (hd : ds.length = n * 512) (hf : ∀ p ∈ ps, p.fits) : OldD (encB ds n g ps) n g ps := by
 obtain ⟨e1, e2, e3, e4, _⟩ := enc_at (gu := g) hn.1 hd hf (prot_len hd hn.1)
 exact ⟨laid_len hn hd hf, e1, e2, e3, e4, prot_laid hn hd hf⟩
theorem protT_zero (n : Nat) {i : Nat} (hi : i < 4) : (protT n).getD (16 * i) 0 = 0 := by
 rw [protT_eq]
 have h4 : (leB 4 ((n : Int) - 1)).length = 4 := leB_len 4 _
 rcases i with _ | i
 ·rfl
 ·simp only [List.getD_eq_getElem?_getD]
  rw [List.getElem?_append_right (by simp; omega), List.getElem?_append_right (by rw [h4]; simp; omega), List.getElem?_append_left (by rw [h4]; simp; omega), List.getElem?_replicate]
  split <;> rfl
theorem protT_sig (n : Nat) : pcs (protT n) 64 2 = [85, 170] := by
 rw [protT_eq]
 have h4 : (leB 4 ((n : Int) - 1)).length = 4 := leB_len 4 _
 have e := pcs_mid (xs := [0, 0, 0, 0, 238, 0, 0, 0, 1, 0, 0, 0] ++ (leB 4 ((n : Int) - 1) ++ List.replicate 48 0)) (ys := [85, 170]) (zs := []) (p := 64) (k := 2) (by simp [h4]) rfl
 simpa only [List.append_assoc, List.append_nil] using e
section states
variable {E : List UInt8} {n k : Nat} {g g0 : List UInt8} {ps ps0 : List GP}
theorem old_mbr (O : OldD E n g0 ps0) (hn : 80 ≤ n ∧ n ≤ 1000000) : sigB E = true ∧ flagsB E ∧ ∀ i, i < 4 → E.getD (446 + 16 * i) 0 = 0 := by
 have hl := O.len
 obtain ⟨h1, h2, _⟩ := prot_mbr (by omega) O.pr
 refine ⟨h1, h2, fun i hi => ?_⟩
 have h := O.pr
 have hg : ∀ j, j < 512 → (pcs E 0 512).getD j 0 = E.getD j 0 := fun j hj => by
  unfold pcs
  simp [List.getD, hj]
 unfold protB at h
 simp only [Bool.and_eq_true, decide_eq_true_eq] at h
 obtain ⟨⟨⟨⟨⟨b1, b2⟩, b3⟩, b4⟩, b5⟩, b6⟩ := h
 rw [hg _ (by decide)] at b3
 have z : ∀ x : UInt8, x.toNat = 0 → x = 0 := fun x hx => UInt8.toNat_inj.1 hx
 rcases i with _ | i
 ·exact z _ b3
 ·have b7 := List.all_eq_true.1 b2 i (by simp; omega)
  have b8 := of_decide_eq_true b7 0 (by rw [pcs_len (by rw [pcs_len (by omega)]; omega)]; decide)
  rw [pcs0 (by omega)] at b8
  have e : (pcs E (462 + 16 * i) 16).getD 0 0 = E.getD (462 + 16 * i) 0 := by
   unfold pcs
   simp [List.getD]
  rw [e] at b8
  rw [show 446 + 16 * (i + 1) = 462 + 16 * i by omega]; exact z _ b8
theorem cut0 (O : OldD E n g0 ps0) (hn : 80 ≤ n ∧ n ≤ 1000000) : CutS (pAt E 446 ((protT n).take k)) n := by
 have hl := O.len
 have hpt := protT_len n
 have out : ∀ p l, 512 ≤ p → pcs (pAt E 446 ((protT n).take k)) p l = pcs E p l := fun p l h => cut_out (by omega) (by omega)
 obtain ⟨m1, m2, m3⟩ := old_mbr O hn
 refine ⟨by rw [cut_len (by omega)]; exact hl, canon_keep (canon_laid O.h1 (gB_len g0)) fun p l h => out _ _ (by omega), canon_keep (canon2_cast hn.1 (canon_laid O.h2 (gB_len g0))) fun p l h => out _ _ (by omega), ?_, fun i hi => .inl ?_, by rw [gat_laid1 hn ((out _ _ (by decide)).trans O.h1) ((out _ _ (by decide)).trans O.a1)]; rfl⟩
 ·unfold sigB at m1
  have e := mix_pcs (D := E) (xs := protT n) (A := 446) (k := k) (o := 64) (l := 2) (by omega) (by omega) (of_decide_eq_true m1) (protT_sig n)
  exact decide_eq_true e
 ·have e : (pAt E 446 ((protT n).take k)).getD (446 + 16 * i) 0 = 0 := by
   have h1 := m3 i hi
   have h2 := protT_zero n hi
   simp only [List.getD_eq_getElem?_getD] at h1 h2 ⊢
   rw [pAt_at (by simp; omega)]
   split
   ·rename_i hc
    rw [List.length_take] at hc
    rw [show 446 + 16 * i - 446 = 16 * i by omega, List.getElem?_take, if_pos (by omega)]
    exact h2
   ·exact h1
  rw [e]; rfl
theorem wr_steps (O : OldD E n g0 ps0) (hn : 80 ≤ n ∧ n ≤ 1000000) (hf : ∀ p ∈ ps, p.fits) :
  (∀ p l, 512 ≤ p → pcs (wr1 E n) p l = pcs E p l) ∧ pcs (wr1 E n) 446 66 = protT n ∧
  (∀ p l, p + l ≤ (n - 33) * 512 ∨ (n - 1) * 512 ≤ p → pcs (wr2 E n ps) p l = pcs (wr1 E n) p l) ∧ pcs (wr2 E n ps) ((n - 33) * 512) 16384 = arrB ps ∧
  (∀ p l, p + l ≤ (n - 1) * 512 → pcs (wr3 E n g ps) p l = pcs (wr2 E n ps) p l) ∧ pcs (wr3 E n g ps) ((n - 1) * 512) 512 = encHdr2 n g ps ∧
  (∀ p l, p + l ≤ 1024 ∨ 17408 ≤ p → pcs (wr4 E n g ps) p l = pcs (wr3 E n g ps) p l) ∧ pcs (wr4 E n g ps) 1024 16384 = arrB ps := by
 have hl := O.len
 have hal := arrB_len hf
 have hgl := gB_len g
 have hh2 : (encHdr2 n g ps).length = 512 := hdrB_len hgl
 have hpt := protT_len n
 obtain ⟨e1, e2, e3, e4, e5⟩ := wr_lens (ds := E) (g := g) hn.1 (by omega) hf
 refine ⟨fun p l h => pcs_hi (by omega) (by omega), pcs_in hpt (by omega), fun p l h => ?_, pcs_in hal (by omega), fun p l h => pcs_lo (by omega) (by omega), pcs_in hh2 (by omega), fun p l h => ?_, pcs_in hal (by omega)⟩
 ·rcases h with h | h
  ·exact pcs_lo (by omega) (by omega)
  ·exact pcs_hi (by omega) (by omega)
 ·rcases h with h | h
  ·exact pcs_lo (by omega) (by omega)
  ·exact pcs_hi (by omega) (by omega)
theorem cut1 (O : OldD E n g0 ps0) (hn : 80 ≤ n ∧ n ≤ 1000000) (hf : ∀ p ∈ ps, p.fits) : CutS (pAt (wr1 E n) ((n - 33) * 512) ((arrB ps).take k)) n := by
 have hl := O.len
 have hal := arrB_len hf
 obtain ⟨o1, i1, o2, i2, o3, i3, o4, i4⟩ := wr_steps (g := []) O hn hf
 obtain ⟨e1, e2, e3, e4, e5⟩ := wr_lens (ds := E) (g := []) hn.1 (by omega) hf
 have out : ∀ p l, p + l ≤ (n - 33) * 512 ∨ (n - 1) * 512 ≤ p → pcs (pAt (wr1 E n) ((n - 33) * 512) ((arrB ps).take k)) p l = pcs (wr1 E n) p l := fun p l h => cut_out (by omega) (by omega)
 have hlen : (pAt (wr1 E n) ((n - 33) * 512) ((arrB ps).take k)).length = n * 512 := by rw [cut_len (by omega), e1]; exact hl
 obtain ⟨m1, m2⟩ := mbr_new hn hlen ((out _ _ (by omega)).trans i1)
 exact ⟨hlen, canon_keep (canon_laid O.h1 (gB_len g0)) fun p l h => (out _ _ (by omega)).trans (o1 _ _ (by omega)), canon_keep (canon2_cast hn.1 (canon_laid O.h2 (gB_len g0))) fun p l h => (out _ _ (by omega)).trans (o1 _ _ (by omega)), m1, m2,
  by rw [gat_laid1 hn ((out _ _ (by omega)).trans ((o1 _ _ (by omega)).trans O.h1)) ((out _ _ (by omega)).trans ((o1 _ _ (by omega)).trans O.a1))]; rfl⟩
theorem cut2 (O : OldD E n g0 ps0) (hn : 80 ≤ n ∧ n ≤ 1000000) (hf : ∀ p ∈ ps, p.fits) : CutS (pAt (wr2 E n ps) ((n - 1) * 512) ((encHdr2 n g ps).take k)) n := by
 have hl := O.len
 have hgl := gB_len g
 have hh2 : (encHdr2 n g ps).length = 512 := hdrB_len hgl
 obtain ⟨o1, i1, o2, i2, o3, i3, o4, i4⟩ := wr_steps (g := g) O hn hf
 obtain ⟨e1, e2, e3, e4, e5⟩ := wr_lens (ds := E) (g := g) hn.1 (by omega) hf
 have out : ∀ p l, p + l ≤ (n - 1) * 512 → pcs (pAt (wr2 E n ps) ((n - 1) * 512) ((encHdr2 n g ps).take k)) p l = pcs (wr2 E n ps) p l := fun p l h => cut_out (by omega) (by omega)
 have lo : ∀ p l, 512 ≤ p → p + l ≤ (n - 33) * 512 → pcs (pAt (wr2 E n ps) ((n - 1) * 512) ((encHdr2 n g ps).take k)) p l = pcs E p l := fun p l h1 h2 => (out _ _ (by omega)).trans ((o2 _ _ (by omega)).trans (o1 _ _ (by omega)))
 have hlen : (pAt (wr2 E n ps) ((n - 1) * 512) ((encHdr2 n g ps).take k)).length = n * 512 := by rw [cut_len (by omega), e2]; exact hl
 obtain ⟨m1, m2⟩ := mbr_new hn hlen ((out _ _ (by omega)).trans ((o2 _ _ (by omega)).trans i1))
 exact ⟨hlen, canon_keep (canon_laid O.h1 (gB_len g0)) fun p l h => lo _ _ (by omega) (by omega), canon2_cast hn.1 (canon_mix (by omega) ((o2 _ _ (by omega)).trans ((o1 _ _ (by omega)).trans O.h2)) (gB_len g0) (gB_len g)), m1, m2,
  by rw [gat_laid1 hn ((lo _ _ (by omega) (by omega)).trans O.h1) ((lo _ _ (by omega) (by omega)).trans O.a1)]; rfl⟩
theorem cut3 (O : OldD E n g0 ps0) (hn : 80 ≤ n ∧ n ≤ 1000000) (hf : ∀ p ∈ ps, p.fits) : CutS (pAt (wr3 E n g ps) 1024 ((arrB ps).take k)) n := by
 have hl := O.len
 have hal := arrB_len hf
 obtain ⟨o1, i1, o2, i2, o3, i3, o4, i4⟩ := wr_steps (g := g) O hn hf
 obtain ⟨e1, e2, e3, e4, e5⟩ := wr_lens (ds := E) (g := g) hn.1 (by omega) hf
 have out : ∀ p l, p + l ≤ 1024 ∨ 17408 ≤ p → pcs (pAt (wr3 E n g ps) 1024 ((arrB ps).take k)) p l = pcs (wr3 E n g ps) p l := fun p l h => cut_out (by omega) (by omega)
 have hlen : (pAt (wr3 E n g ps) 1024 ((arrB ps).take k)).length = n * 512 := by rw [cut_len (by omega), e3]; exact hl
 obtain ⟨m1, m2⟩ := mbr_new hn hlen ((out _ _ (by omega)).trans ((o3 _ _ (by omega)).trans ((o2 _ _ (by omega)).trans i1)))
 have hb := (out ((n - 1) * 512) 512 (by omega)).trans i3
 have ha := (out ((n - 33) * 512) 16384 (by omega)).trans ((o3 _ _ (by omega)).trans i2)
 exact ⟨hlen, canon_keep (canon_laid O.h1 (gB_len g0)) fun p l h => (out _ _ (by omega)).trans ((o3 _ _ (by omega)).trans ((o2 _ _ (by omega)).trans (o1 _ _ (by omega)))), canon2_cast hn.1 (canon_laid hb (gB_len g)), m1, m2, by rw [gat_laid2 hn hb ha, Bool.or_true]⟩
theorem cut4 (O : OldD E n g0 ps0) (hn : 80 ≤ n ∧ n ≤ 1000000) (hf : ∀ p ∈ ps, p.fits) : CutS (pAt (wr4 E n g ps) 512 ((encHdr n g ps).take k)) n := by
 have hl := O.len
 have hgl := gB_len g
 have hh1 : (encHdr n g ps).length = 512 := hdrB_len hgl
 obtain ⟨o1, i1, o2, i2, o3, i3, o4, i4⟩ := wr_steps (g := g) O hn hf
 obtain ⟨e1, e2, e3, e4, e5⟩ := wr_lens (ds := E) (g := g) hn.1 (by omega) hf
 have out : ∀ p l, p + l ≤ 512 ∨ 1024 ≤ p → pcs (pAt (wr4 E n g ps) 512 ((encHdr n g ps).take k)) p l = pcs (wr4 E n g ps) p l := fun p l h => cut_out (by omega) (by omega)
 have hlen : (pAt (wr4 E n g ps) 512 ((encHdr n g ps).take k)).length = n * 512 := by rw [cut_len (by omega), e4]; exact hl
 obtain ⟨m1, m2⟩ := mbr_new hn hlen ((out _ _ (by omega)).trans ((o4 _ _ (by omega)).trans ((o3 _ _ (by omega)).trans ((o2 _ _ (by omega)).trans i1))))
 have hb := (out ((n - 1) * 512) 512 (by omega)).trans ((o4 _ _ (by omega)).trans i3)
 have ha := (out ((n - 33) * 512) 16384 (by omega)).trans ((o4 _ _ (by omega)).trans ((o3 _ _ (by omega)).trans i2))
 have hp : pcs (wr4 E n g ps) 512 512 = encHdr n g0 ps0 := (o4 _ _ (by omega)).trans ((o3 _ _ (by omega)).trans ((o2 _ _ (by omega)).trans ((o1 _ _ (by omega)).trans O.h1)))
 exact ⟨hlen, canon_mix (by omega) hp (gB_len g0) (gB_len g), canon2_cast hn.1 (canon_laid hb (gB_len g)), m1, m2, by rw [gat_laid2 hn hb ha, Bool.or_true]⟩
end states
def stoStep (cur : List UInt8) (x : St) (many part i : Nat) : List UInt8 :=
 if many < i then cur else
  if 0 ≤ x.k ∧ x.k + ((if i = many then x.d.take part else x.d).length : Nat) ≤ (cur.length : Int) then pAt cur x.k.toNat (if i = many then x.d.take part else x.d) else cur
def stoN (ds : List UInt8) (l : List St) (many part : Nat) : Nat → List UInt8
 | 0 => ds
 | i + 1 => match l[i]? with
  | none => stoN ds l many part i
  | some x => stoStep (stoN ds l many part i) x many part i
theorem stoN_at {ds : List UInt8} {l : List St} {many part i : Nat} {x : St} (h : l[i]? = some x) : stoN ds l many part (i + 1) = stoStep (stoN ds l many part i) x many part i := by
 simp only [stoN, h]
theorem stoStep_len (cur : List UInt8) (x : St) (many part i : Nat) : (stoStep cur x many part i).length = cur.length := by
 unfold stoStep
 generalize (if i = many then x.d.take part else x.d) = d
 split
 ·rfl
 ·split
  ·rename_i h
   exact pAt_len (by omega)
  ·rfl
theorem stoN_len (ds : List UInt8) (l : List St) (many part : Nat) : ∀ i, (stoN ds l many part i).length = ds.length
 | 0 => rfl
 | i + 1 => by
  simp only [stoN]
  split
  ·exact stoN_len ds l many part i
  ·rw [stoStep_len]; exact stoN_len ds l many part i
theorem stoN_stop {ds : List UInt8} {l : List St} {many part : Nat} : ∀ {i j : Nat}, many < i → i ≤ j → stoN ds l many part j = stoN ds l many part i
 | i, 0, h, h2 => by omega
 | i, j + 1, h, h2 => by
  rcases Nat.lt_or_ge j i with h3 | h3
  ·obtain rfl : i = j + 1 := by omega
   rfl
  ·rw [← stoN_stop (j := j) h h3]
   simp only [stoN]
   split
   ·rfl
   ·unfold stoStep; rw [if_pos (by omega)]
theorem sto_full {cur : List UInt8} {d : List UInt8} {k : Nat} {s : Bool} {many part i : Nat} (h : i < many) (hl : k + d.length ≤ cur.length) : stoStep cur ⟨(k : Int), d, s⟩ many part i = pAt cur k d := by
 unfold stoStep
 rw [if_neg (by omega)]
 simp only [if_neg (show ¬ i = many by omega)]
 rw [if_pos (by omega), Int.toNat_natCast]
theorem sto_part {cur : List UInt8} {d : List UInt8} {k : Nat} {s : Bool} {many part : Nat} (hl : k + d.length ≤ cur.length) : stoStep cur ⟨(k : Int), d, s⟩ many part many = pAt cur k (d.take part) := by
 unfold stoStep
 rw [if_neg (by omega)]
 simp only [if_pos trivial]
 rw [if_pos (by rw [List.length_take]; omega), Int.toNat_natCast]
theorem sto_sync {cur : List UInt8} {s : Bool} {many part i : Nat} : stoStep cur ⟨0, [], s⟩ many part i = cur := by
 unfold stoStep
 split
 ·rfl
 ·simp [pAt_nil]
section sto
variable {E : List UInt8} {n many part : Nat} {g g0 : List UInt8} {ps ps0 : List GP}
theorem take_all {d : List UInt8} {k : Nat} (h : d.length = k) : d.take k = d := List.take_of_length_le (by omega)
theorem sto_cut (O : OldD E n g0 ps0) (hn : 80 ≤ n ∧ n ≤ 1000000) (hf : ∀ p ∈ ps, p.fits) (hm : many ≤ 10) : CutS (stoN E (stsW n g ps) many part 10) n ∧ (many = 10 → stoN E (stsW n g ps) many part 10 = wrB E n g ps) := by
 have hl := O.len
 have hal := arrB_len hf
 have hgl := gB_len g
 have hh1 : (encHdr n g ps).length = 512 := hdrB_len hgl
 have hh2 : (encHdr2 n g ps).length = 512 := hdrB_len hgl
 have hpt := protT_len n
 obtain ⟨e1, e2, e3, e4, e5⟩ := wr_lens (ds := E) (g := g) hn.1 (by omega) hf
 let X := stoN E (stsW n g ps) many part
 have t0 : X 1 = stoStep E ⟨((446 : Nat) : Int), protT n, false⟩ many part 0 := rfl
 have t1 : X 2 = X 1 := sto_sync
 have t2 : X 3 = stoStep (X 2) ⟨(((n - 33) * 512 : Nat) : Int), arrB ps, false⟩ many part 2 := rfl
 have t3 : X 4 = X 3 := sto_sync
 have t4 : X 5 = stoStep (X 4) ⟨(((n - 1) * 512 : Nat) : Int), encHdr2 n g ps, false⟩ many part 4 := rfl
 have t5 : X 6 = X 5 := sto_sync
 have t6 : X 7 = stoStep (X 6) ⟨((1024 : Nat) : Int), arrB ps, false⟩ many part 6 := rfl
 have t7 : X 8 = X 7 := sto_sync
 have t8 : X 9 = stoStep (X 8) ⟨((512 : Nat) : Int), encHdr n g ps, false⟩ many part 8 := rfl
 have t9 : X 10 = X 9 := sto_sync
 have f0 : 0 < many → X 2 = wr1 E n := fun h => by rw [t1, t0, sto_full h (by omega)]; rfl
 have f2 : 2 < many → X 4 = wr2 E n ps := fun h => by rw [t3, t2, f0 (by omega), sto_full h (by omega)]; rfl
 have f4 : 4 < many → X 6 = wr3 E n g ps := fun h => by rw [t5, t4, f2 (by omega), sto_full h (by omega)]; rfl
 have f6 : 6 < many → X 8 = wr4 E n g ps := fun h => by rw [t7, t6, f4 (by omega), sto_full h (by omega)]; rfl
 have f8 : 8 < many → X 10 = wrB E n g ps := fun h => by rw [t9, t8, f6 (by omega), sto_full h (by omega)]; rfl
 have c0 := cut0 (k := 66) O hn
 have c1 := cut1 (ps := ps) (k := 16384) O hn hf
 have c2 := cut2 (g := g) (ps := ps) (k := 512) O hn hf
 have c3 := cut3 (g := g) (ps := ps) (k := 16384) O hn hf
 have c4 := cut4 (g := g) (ps := ps) (k := 512) O hn hf
 rw [take_all hpt] at c0
 rw [take_all hal] at c1 c3
 rw [take_all hh2] at c2
 rw [take_all hh1] at c4
 have stop : ∀ i, many < i → i ≤ 10 → stoN E (stsW n g ps) many part 10 = X i := fun i h1 h2 => stoN_stop h1 h2
 refine ⟨?_, fun h => f8 (by omega)⟩
 rcases Nat.lt_or_ge 8 many with h | h
 ·show CutS (X 10) n
  rw [f8 h]; exact c4
 ·obtain h | h | h | h | h | h | h | h | h : many = 0 ∨ many = 1 ∨ many = 2 ∨ many = 3 ∨ many = 4 ∨ many = 5 ∨ many = 6 ∨ many = 7 ∨ many = 8 := by omega
  ·rw [stop 1 (by omega) (by decide), t0]; subst h; rw [sto_part (by omega)]; exact cut0 O hn
  ·rw [stop 2 (by omega) (by decide), f0 (by omega)]; exact c0
  ·rw [stop 3 (by omega) (by decide), t2, f0 (by omega)]; subst h; rw [sto_part (by omega)]; exact cut1 O hn hf
  ·rw [stop 4 (by omega) (by decide), f2 (by omega)]; exact c1
  ·rw [stop 5 (by omega) (by decide), t4, f2 (by omega)]; subst h; rw [sto_part (by omega)]; exact cut2 O hn hf
  ·rw [stop 6 (by omega) (by decide), f4 (by omega)]; exact c2
  ·rw [stop 7 (by omega) (by decide), t6, f4 (by omega)]; subst h; rw [sto_part (by omega)]; exact cut3 O hn hf
  ·rw [stop 8 (by omega) (by decide), f6 (by omega)]; exact c3
  ·rw [stop 9 (by omega) (by decide), t8, f6 (by omega)]; subst h; rw [sto_part (by omega)]; exact cut4 O hn hf
theorem cut_end (hn : 80 ≤ n ∧ n ≤ 1000000) (hd : E.length = n * 512) (hf : ∀ p ∈ ps, p.fits) : cutG (wrB E n g ps) n = gB g ∧ cutA (wrB E n g ps) n = arrB ps := by
 obtain ⟨e1, e2, e3, e4, e5⟩ := wr_at (g := g) hn.1 (by omega : n * 512 ≤ E.length) hf
 have S := stands_wr (g := g) hn hd hf
 unfold cutG cutA
 rw [gat_laid1 hn e1 e2]
 exact ⟨S.u1, S.a1⟩
end sto
theorem stsW_rng {n : Nat} {g : List UInt8} {ps : List GP} {i : Nat} {st : St} (hn : 80 ≤ n) (hf : ∀ p ∈ ps, p.fits) (h : (stsW n g ps)[i]? = some st) : ∃ k : Nat, st.k = (k : Int) ∧ k + st.d.length ≤ n * 512 ∧ k < n * 512 := by
 have hal := arrB_len hf
 have hgl := gB_len g
 have hh1 : (encHdr n g ps).length = 512 := hdrB_len hgl
 have hh2 : (encHdr2 n g ps).length = 512 := hdrB_len hgl
 have hpt := protT_len n
 unfold stsW at h
 rcases i with _ | _ | _ | _ | _ | _ | _ | _ | _ | _ | i <;> simp at h <;> subst h
 ·exact ⟨446, rfl, by show 446 + (protT n).length ≤ _; omega, by omega⟩
 ·exact ⟨0, rfl, by show 0 + 0 ≤ _; omega, by omega⟩
 ·exact ⟨(n - 33) * 512, rfl, by show _ + (arrB ps).length ≤ _; omega, by omega⟩
 ·exact ⟨0, rfl, by show 0 + 0 ≤ _; omega, by omega⟩
 ·exact ⟨(n - 1) * 512, rfl, by show _ + (encHdr2 n g ps).length ≤ _; omega, by omega⟩
 ·exact ⟨0, rfl, by show 0 + 0 ≤ _; omega, by omega⟩
 ·exact ⟨1024, rfl, by show 1024 + (arrB ps).length ≤ _; omega, by omega⟩
 ·exact ⟨0, rfl, by show 0 + 0 ≤ _; omega, by omega⟩
 ·exact ⟨512, rfl, by show 512 + (encHdr n g ps).length ≤ _; omega, by omega⟩
 ·exact ⟨0, rfl, by show 0 + 0 ≤ _; omega, by omega⟩
theorem sto_next {ds : List UInt8} {l : List St} {many part i k : Nat} {st : St} (h : l[i]? = some st) (hk : st.k = (k : Int)) (hm : i ≤ many) (hl : k + st.d.length ≤ ds.length) : stoN ds l many part (i + 1) = pAt (stoN ds l many part i) k (if i = many then st.d.take part else st.d) := by
 rw [stoN_at h]
 have hl2 := stoN_len ds l many part i
 obtain ⟨sk, sd, ss⟩ := st
 simp only at hk hl ⊢
 subst hk
 by_cases e : i = many
 ·subst e
  rw [sto_part (by omega), if_pos rfl]
 ·rw [sto_full (by omega) (by omega), if_neg e]
theorem CutS.gatIs {C Z : List UInt8} {n : Nat} (S : CutS C n) (hn : 80 ≤ n ∧ n ≤ 1000000) {a m cap : Nat} {rb b : Bool} {D : Option Addr} {s : Int} {g : List UInt8} {X : List Value}
  (hcs : (gatB (C ++ Z) n 1 = true ∧ a = 1 ∧ rb = false) ∨ (gatB (C ++ Z) n 1 = false ∧ a = n - 1 ∧ rb = b)) (hbb : b = gatB (C ++ Z) n a) (hI : GatIs (C ++ Z) n a D m cap s g X) :
  b = true ∧ s = 512 ∧ g = gT (cutG C n) ∧ m = (usedP (cutA C n) 128).length ∧ X = (usedP (cutA C n) 128).flatMap GP.cells := by
 obtain ⟨g1, g2, f1, f2, a1, a2, u1, u2⟩ := S.gat (Z := Z) hn
 have hok := S.ok
 rcases hcs with ⟨h, rfl, _⟩ | ⟨h, rfl, _⟩
 ·have hg : gatB C n 1 = true := by rw [← g1]; exact h
  obtain ⟨k, hk, _, k1, k2, k3, k4⟩ := hI.1 h
  obtain rfl : k = 2 := by rw [f1] at hk; omega
  rw [a1] at k1 k2; rw [u1] at k4
  unfold cutG cutA
  rw [hg]
  exact ⟨by rw [hbb]; exact h, k3, k4, k1, k2⟩
 ·have hg : gatB C n 1 = false := by rw [← g1]; exact h
  have hg2 : gatB C n (n - 1) = true := by rw [hg, Bool.false_or] at hok; exact hok
  have h2 : gatB (C ++ Z) n (n - 1) = true := by rw [g2]; exact hg2
  obtain ⟨k, hk, _, k1, k2, k3, k4⟩ := hI.1 h2
  obtain rfl : k = n - 33 := by rw [f2] at hk; omega
  rw [a2] at k1 k2; rw [u2] at k4
  unfold cutG cutA
  rw [hg]
  exact ⟨by rw [hbb]; exact h2, k3, k4, k1, k2⟩
theorem CutS.told {C : List UInt8} {n : Nat} (S : CutS C n) {e : TypeId} {w w' : World} {v1 : Value} {p1 p2 : Bool}
  (r1 : gatB C n 1 = true → ∃ D2 cap2, v1 = .agg (gtCells D2 (usedP (pcs C 1024 16384) 128).length cap2 512 (gT (pcs C 568 16)) p1 false).toArray ∧ OR e 8 w [] w' [] D2 (usedP (pcs C 1024 16384) 128).length cap2 ((usedP (pcs C 1024 16384) 128).flatMap GP.cells))
  (r2 : gatB C n 1 = false → gatB C n (n - 1) = true → ∃ D2 cap2, v1 = .agg (gtCells D2 (usedP (pcs C (512 * (n - 33)) 16384) 128).length cap2 512 (gT (pcs C (512 * (n - 1) + 56) 16)) p2 true).toArray ∧ OR e 8 w [] w' [] D2 (usedP (pcs C (512 * (n - 33)) 16384) 128).length cap2 ((usedP (pcs C (512 * (n - 33)) 16384) 128).flatMap GP.cells)) :
  ∃ D2 cap2 pr rb, v1 = .agg (gtCells D2 (usedP (cutA C n) 128).length cap2 512 (gT (cutG C n)) pr rb).toArray ∧ OR e 8 w [] w' [] D2 (usedP (cutA C n) 128).length cap2 ((usedP (cutA C n) 128).flatMap GP.cells) := by
 have hok := S.ok
 unfold cutG cutA
 cases hg : gatB C n 1 with
 | true =>
  obtain ⟨D2, cap2, h1, O⟩ := r1 hg
  exact ⟨D2, cap2, p1, false, h1, O⟩
 | false =>
  obtain ⟨D2, cap2, h1, O⟩ := r2 hg (by rw [hg, Bool.false_or] at hok; exact hok)
  exact ⟨D2, cap2, p2, true, h1, O⟩
theorem cut_same {E C : List UInt8} {n : Nat} {g : List UInt8} {ps : List GP} (hn : 80 ≤ n ∧ n ≤ 1000000) (hd : E.length = n * 512) (hgu : gOk g = true) (hgl : goodL n ps) (ho : ∀ p ∈ ps, p.ok) (h : C = wrB E n g ps) : sameT (gT (cutG C n)) g (usedP (cutA C n) 128) ps = true := by
 obtain ⟨e1, e2⟩ := cut_end (g := g) hn hd (fun p hp => (hgl.1 p hp).fits)
 rw [h, e1, e2, used_laid hgl]
 exact same_laid hgu hgl ho hn.2
theorem SH.anew {w0 w : World} {S : List Nat} {L : List Ent} (H : SH w0 S w L) : SH w [] w (L.map fun e => ⟨e.b, e.o, false⟩) := by
 refine SH.init [] _ (fun x hx => ?_) ?_ (fun x hx h => ?_)
 ·obtain ⟨y, hy, rfl⟩ := List.mem_map.1 hx
  exact H.get y hy
 ·rw [List.pairwise_map]
  exact List.pairwise_of_forall fun x y h => by simp at h
 ·obtain ⟨y, hy, rfl⟩ := List.mem_map.1 hx
  cases h
end Go.Proofs.YthcaejaaalkglaaGreatDoor.X
/- Walks of functions, printed by a program of this claim. -/
namespace Go.Proofs.YthcaejaaalkglaaGreatDoor.X
set_option linter.unusedVariables false
set_option linter.unusedSimpArgs false
open Go Go.RowKit
namespace PF
theorem fo46_1 : fieldOff Tryz.prog 46 1 = some 1 := by kernel_rfl
end PF
open PF
set_option maxRecDepth 100000 in
set_option maxHeartbeats 2000000 in
theorem c_stored (w : World) (B : Option Addr) (cB n many part : Nat) (ds : List UInt8) (ad : Addr) (cs : Nat) (g : List UInt8) (ps : List GP) (hn : 80 ≤ n ∧ n ≤ 100000) (hR : RB w B (n * 512) ds) (hrow : ∀ j u, ((stsW n g ps).flatMap St.cells)[j]? = some u → ∃ ad', some ad = some ad' ∧ w.cell? (ad'.add j) = some u) (hf : ∀ p ∈ ps, p.fits) (hm : many ≤ 10) (hp : part ≤ 65535) : Calls Tryz.prog 19 #[.slice B (n * 512) cB, .slice (some ad) 10 cs, .int .i64 (many : Int), .int .i64 (part : Int)] w (Ret fun v w' => ∃ q9 c9, v = .slice (some ⟨q9, 0, none⟩) (n * 512) c9 ∧ n * 512 ≤ c9 ∧ SH w [] w' [⟨q9, .cells (Bs (stoN ds (stsW n g ps) many part (10) ++ List.replicate (c9 - n * 512) 0)).toArray 5 (0, 0), true⟩]) := by
 refine enter (fun ρ => ρ 8) Tryz.func19 rfl rfl rfl (res1 rfl) ?_
 have H := SH.nil w
 have hdl := hR.1
 refine sq ?_
 refine rg ?_
 refine asg (v := .slice _ _ _) rfl rfl ?_
 refine nl ?_
 refine then_n ?_
 refine sq ?_
 refine rg ?_
 refine bsl (sz := 1) (out := ?o1) H Tryz.underlying30 ze5 sz5_1 (by decide) ?f1 rfl ?_
 case f1 =>
  exact FS.nil
 clear H; intro b1 w1 hb1 H F
 refine mv (v := .slice _ _ _) rfl rfl ?_
 refine apZ (bs := ds) H rfl rfl (hR.keep H.fr) Tryz.underlying30 ri5 (by omega) rfl ?_
 clear H; intro q9 c9 w2 hq9 hc9 hc9m _ H
 unfold maxLen at hc9m
 refine asg (v := .slice _ _ _) rfl rfl ?_
 refine nl ?_
 refine then_n ?_
 refine sq ?_
 refine sq ?_
 refine rg ?_
 refine mv (v := .slice _ _ _) rfl rfl ?_
 refine lnS rfl Tryz.underlying39 rfl ?_
 refine mv (v := .int .i64 _) rfl rfl ?_
 refine nl ?_
 refine then_n ?_
 refine bk ?_
 refine lpM (α := Nat) [10, 11, 12, 18, 19, 20, 21, 22, 23, 24, 25, 26, 27, 28, 29, 30, 31, 32, 33, 34, 35, 36, 37, 38, 39, 40, 41, 42, 43, 44, 45, 46, 47, 48, 49, 50, 51, 52, 53, 54, 55, 56] (fun i => [(18, .int .i64 (i : Int))]) (fun i w' => i ≤ 10 ∧ i ≤ many + 1 ∧ SH w [] w' [⟨q9, .cells (Bs (stoN ds (stsW n g ps) many part (i) ++ List.replicate (c9 - n * 512) 0)).toArray 5 (0, 0), true⟩]) (fun i => 10 - i) 0 ?_ (fCX (fN _)) ?_
 ·exact ⟨by omega, by omega, H.subX⟩
 ·rintro i ρx w3 ⟨hi, him, H⟩
  have hlX := stoN_len ds (stsW n g ps) many part i
  refine sq ?_
  refine rg ?_
  refine lss rfl rfl rfl ?_
  refine nl ?_
  refine then_n ?_
  refine sq ?_
  refine cd rfl (fun hc1 => ?_) (fun hc1 => ?_)
  ·obtain ⟨st, hst⟩ : ∃ st, (stsW n g ps)[i]? = some st := ⟨_, List.getElem?_eq_getElem (by show i < 10; omega)⟩
   obtain ⟨k, hk, hkl, hkn⟩ := stsW_rng hn.1 hf hst
   refine sk ?_
   refine then_n ?_
   refine sq ?_
   refine bk ?_
   refine sq ?_
   refine rg ?_
   refine mv (v := .int .i64 _) rfl rfl ?_
   refine iBN (ad.add (i * 3)) rfl rfl Tryz.underlying39 sz46_3 (by omega) (by simp) rfl ?_
   refine lw (vs := st.cells) rfl ag46_3 rfl (fun j v h => H.fr.cell (row3 hrow hst j v h) (by simp)) rfl ?_
   refine al H ze46 rfl ?_
   clear H; intro b2 w4 hb2 H _
   refine asg (v := .int .i64 _) rfl rfl ?_
   refine sa (cs' := st.cells) H rfl rfl ag46_3 rfl rfl (by decide) (by omega) rfl ?_
   clear H; intro w35 H _
   refine nl ?_
   refine then_n ?_
   refine sq ?_
   refine rg ?_
   refine fa rfl fo46_1 rfl ?_
   refine ld H rfl sc9 rfl rfl ?_
   refine asg (v := .string _) rfl rfl ?_
   refine nl ?_
   refine then_n ?_
   refine sq ?_
   refine sq ?_
   refine rg ?_
   refine mv (v := .int .i64 _) rfl rfl ?_
   refine mv (v := .int .i64 _) rfl rfl ?_
   refine gtr rfl rfl rfl ?_
   refine nl ?_
   refine then_n ?_
   refine cd rfl (fun hc2 => ?_) (fun hc2 => ?_)
   ·refine ex ?_
    refine then_e ?_
    refine in_miss rfl ?_
    refine then_e ?_
    refine loop_e ?_
    refine in_hit rfl ?_
    refine then_n ?_
    refine sq ?_
    refine rg ?_
    refine mv (v := .slice _ _ _) rfl rfl ?_
    refine asg (v := .slice _ _ _) rfl rfl ?_
    refine nl ?_
    refine then_n ?_
    refine rt ?_
    refine fin_r ?_
    exact ⟨q9, c9, rfl, hc9, by rw [stoN_stop (i := i) (j := 10) (by omega) hi]; exact H.subX⟩
   ·refine sk ?_
    refine then_n ?_
    refine sq ?_
    refine sq ?_
    refine rg ?_
    refine mv (v := .int .i64 _) rfl rfl ?_
    refine mv (v := .int .i64 _) rfl rfl ?_
    refine eql rfl rfl rfl ?_
    refine nl ?_
    refine then_n ?_
    refine cd rfl (fun hc3 => ?_) (fun hc3 => ?_)
    ·have him2 : i = many := by omega
     have hds := size_str (st.d.take part)
     have hdt : (st.d.take part).length ≤ st.d.length := by simp; omega
     refine rg ?_
     refine mv (v := .string _) rfl rfl ?_
     refine mv (v := .string _) rfl rfl ?_
     refine lnT rfl Tryz.underlying9 rfl ?_
     refine mv (v := .int .i64 _) rfl rfl ?_
     refine min2 rfl rfl rfl ?_
     refine slTh (bs := st.d) rfl rfl Tryz.underlying9 (by rw [size_str]; omega) rfl ?_
     rw [show (min ((str st.d).size : Int) (part : Int)).toNat = min st.d.length part by rw [size_str]; omega, show st.d.take (min st.d.length part) = st.d.take part by rw [← List.take_take, List.take_of_length_le (by omega)]]
     refine asg (v := .string _) rfl rfl ?_
     refine nl ?_
     refine then_n ?_
     refine sq ?_
     refine rg ?_
     refine fa rfl fo46_0 rfl ?_
     refine ld H rfl sc2 rfl rfl ?_
     refine geq rfl rfl rfl ?_
     refine mv (v := .bool _) rfl rfl ?_
     refine spT (t := 40) rfl (by omega) ?_
     refine gy rfl ?_
     refine fa rfl fo46_0 rfl ?_
     refine gy rfl ?_
     refine ld H rfl sc2 rfl rfl ?_
     refine gy rfl ?_
     refine mv (v := .string _) rfl rfl ?_
     refine gy rfl ?_
     refine lnT rfl Tryz.underlying9 rfl ?_
     refine gy rfl ?_
     refine add rfl rfl (by first | exact w_i64 (by omega) | exact w_i64 (rng_i64 _) | rfl) rfl ?_
     refine gy rfl ?_
     refine mv (v := .slice _ _ _) rfl rfl ?_
     refine gy rfl ?_
     refine lnS rfl Tryz.underlying30 rfl ?_
     refine gy rfl ?_
     refine leq rfl rfl rfl ?_
     refine pkT (v := .bool _) rfl rfl rfl ?_
     refine nl ?_
     refine then_n ?_
     refine cT rfl (by omega) ?_
     refine rg ?_
     refine mv (v := .slice _ _ _) rfl rfl ?_
     refine fa rfl fo46_0 rfl ?_
     refine ld H rfl sc2 rfl rfl ?_
     refine sllN (k) (n * 512 - k) (c9 - k) rfl rfl Tryz.underlying30 sz5_1 (by omega) (by omega) rfl ?_
     refine mv (v := .string _) rfl rfl ?_
     refine cpT (bs := st.d.take part) (ds := stoN ds (stsW n g ps) many part i ++ List.replicate (c9 - n * 512) 0) H rfl rfl Tryz.underlying30 sz5_1 (by omega) (by rw [List.length_append, List.length_replicate]; omega) (by omega) rfl ?_
     clear H; intro w5 H _ _
     rw [pAt_appW (by omega)] at H
     refine nl ?_
     refine in_n ?_
     refine then_n ?_
     refine rg ?_
     refine add rfl rfl (by first | exact w_i64 (by omega) | exact w_i64 (rng_i64 _) | rfl) rfl ?_
     refine mv (v := .int .i64 _) rfl rfl ?_
     refine nl ?_
     refine loop_n ?_
     exact ⟨i + 1, (by (try dsimp only); omega), ⟨by omega, by omega, by rw [sto_next (ds := ds) (part := part) hst hk (by omega) (by omega), if_pos (by omega)]; exact H.subX⟩, (fCX (fN _)), agX⟩
    ·have hds := size_str st.d
     refine sk ?_
     refine then_n ?_
     refine sq ?_
     refine rg ?_
     refine fa rfl fo46_0 rfl ?_
     refine ld H rfl sc2 rfl rfl ?_
     refine geq rfl rfl rfl ?_
     refine mv (v := .bool _) rfl rfl ?_
     refine spT (t := 40) rfl (by omega) ?_
     refine gy rfl ?_
     refine fa rfl fo46_0 rfl ?_
     refine gy rfl ?_
     refine ld H rfl sc2 rfl rfl ?_
     refine gy rfl ?_
     refine mv (v := .string _) rfl rfl ?_
     refine gy rfl ?_
     refine lnT rfl Tryz.underlying9 rfl ?_
     refine gy rfl ?_
     refine add rfl rfl (by first | exact w_i64 (by omega) | exact w_i64 (rng_i64 _) | rfl) rfl ?_
     refine gy rfl ?_
     refine mv (v := .slice _ _ _) rfl rfl ?_
     refine gy rfl ?_
     refine lnS rfl Tryz.underlying30 rfl ?_
     refine gy rfl ?_
     refine leq rfl rfl rfl ?_
     refine pkT (v := .bool _) rfl rfl rfl ?_
     refine nl ?_
     refine then_n ?_
     refine cT rfl (by omega) ?_
     refine rg ?_
     refine mv (v := .slice _ _ _) rfl rfl ?_
     refine fa rfl fo46_0 rfl ?_
     refine ld H rfl sc2 rfl rfl ?_
     refine sllN (k) (n * 512 - k) (c9 - k) rfl rfl Tryz.underlying30 sz5_1 (by omega) (by omega) rfl ?_
     refine mv (v := .string _) rfl rfl ?_
     refine cpT (bs := st.d) (ds := stoN ds (stsW n g ps) many part i ++ List.replicate (c9 - n * 512) 0) H rfl rfl Tryz.underlying30 sz5_1 (by omega) (by rw [List.length_append, List.length_replicate]; omega) (by omega) rfl ?_
     clear H; intro w6 H _ _
     rw [pAt_appW (by omega)] at H
     refine nl ?_
     refine in_n ?_
     refine then_n ?_
     refine rg ?_
     refine add rfl rfl (by first | exact w_i64 (by omega) | exact w_i64 (rng_i64 _) | rfl) rfl ?_
     refine mv (v := .int .i64 _) rfl rfl ?_
     refine nl ?_
     refine loop_n ?_
     exact ⟨i + 1, (by (try dsimp only); omega), ⟨by omega, by omega, by rw [sto_next (ds := ds) (part := part) hst hk (by omega) (by omega), if_neg (by omega)]; exact H.subX⟩, (fCX (fN _)), agX⟩
  ·refine ex ?_
   refine then_e ?_
   refine loop_e ?_
   refine in_hit rfl ?_
   refine then_n ?_
   refine sq ?_
   refine rg ?_
   refine mv (v := .slice _ _ _) rfl rfl ?_
   refine asg (v := .slice _ _ _) rfl rfl ?_
   refine nl ?_
   refine then_n ?_
   refine rt ?_
   refine fin_r ?_
   obtain rfl : i = 10 := by omega
   exact ⟨q9, c9, rfl, hc9, H⟩
end Go.Proofs.YthcaejaaalkglaaGreatDoor.X
/- Walks of functions, printed by a program of this claim. -/
namespace Go.Proofs.YthcaejaaalkglaaGreatDoor.X
set_option linter.unusedVariables false
set_option linter.unusedSimpArgs false
open Go Go.RowKit
namespace PF
theorem ca19 : callable Tryz.prog 19 = true := by kernel_rfl
end PF
open PF
set_option maxRecDepth 100000 in
set_option maxHeartbeats 8000000 in
theorem c_FnGptCut (w : World) (D0 D : Option Addr) (m0 c0 m c : Nat) (sec0 sec : Int) (g0 g : List UInt8) (pr0 rc0 pr rc : Bool) (ps0 ps : List GP) (hq0 : RG w D0 m0 c0 ps0) (hq : RG w D m c ps) (hU : Utf8W w) (x y z : Int) (hx : 0 ≤ x ∧ x ≤ 65535) (hy : 0 ≤ y ∧ y ≤ 65535) (hz : 0 ≤ z ∧ z ≤ 65535) : Calls Tryz.prog 5 #[.agg (gtCells D0 m0 c0 sec0 g0 pr0 rc0).toArray, .agg (gtCells D m c sec g pr rc).toArray, .int .u16 x, .int .u16 y, .int .u16 z] w (Ret fun v w' => v = .bool true ∧ Fr [] w w') := by
 refine enter (fun ρ => ρ 10) Tryz.func5 rfl rfl rfl (res1 rfl) ?_
 have H := SH.nil w
 have hql := hq.len
 have hql0 := hq0.len
 obtain ⟨n, hnn⟩ : ∃ n : Nat, (n : Int) = 80 + x % 200 := ⟨(80 + x % 200).toNat, by omega⟩
 have hn : 80 ≤ n ∧ n ≤ 1000000 := by omega
 have hnb : n ≤ 1000 := by omega
 obtain ⟨many, hmy⟩ : ∃ many : Nat, (many : Int) = y % 11 := ⟨(y % 11).toNat, by omega⟩
 have hm10 : many ≤ 10 := by omega
 obtain ⟨part, rfl⟩ := Int.eq_ofNat_of_zero_le hz.1
 refine sq ?_
 refine rg ?_
 refine bx (v := .agg _) H rfl rfl rfl ?_
 clear H; intro b1 w1 hb1 H _
 refine bx (v := .agg _) H rfl rfl rfl ?_
 clear H; intro b2 w2 hb2 H _
 refine asg (v := .bool _) rfl rfl ?_
 refine nl ?_
 refine then_n ?_
 refine sq ?_
 refine sq ?_
 refine rg ?_
 refine la H rfl ag24_5 rfl rfl rfl ?_
 refine cl ca8 (c_fits5 _ D0 m0 c0 sec0 g0 pr0 rc0 ps0 (hq0.keep H.fr)) rfl ?_
 rintro _ w3 ⟨g50, rfl, g50h, F⟩
 replace H := H.keep F; clear F
 refine unot rfl rfl ?_
 refine mv (v := .bool _) rfl rfl ?_
 refine sp (t := 25) rfl (fun hg1 => ?_) (fun hg1 => ?_)
 ·refine gn rfl rfl ?_
  refine gn rfl rfl ?_
  refine gn rfl rfl ?_
  refine pkT (v := .bool _) rfl rfl rfl ?_
  refine nl ?_
  refine then_n ?_
  refine cbT rfl rfl ?_
  refine sq ?_
  refine rg ?_
  refine asg (v := .bool _) rfl rfl ?_
  refine nl ?_
  refine then_n ?_
  refine rt ?_
  refine then_r ?_
  refine fin_r ?_
  exact ⟨rfl, H.fr⟩
 ·have h50 := g50h (by simpa using hg1)
  refine gy rfl ?_
  refine la H rfl ag24_5 rfl rfl rfl ?_
  refine gy rfl ?_
  refine cl ca8 (c_fits5 _ D m c sec g pr rc ps (hq.keep H.fr)) rfl ?_
  rintro _ w4 ⟨g5, rfl, g5h, F⟩
  replace H := H.keep F; clear F
  refine gy rfl ?_
  refine unot rfl rfl ?_
  refine pkF (v := .bool _) rfl rfl rfl ?_
  refine nl ?_
  refine then_n ?_
  refine cn rfl (fun hc1 => ?_) (fun hc1 => ?_)
  ·refine sq ?_
   refine rg ?_
   refine asg (v := .bool _) rfl rfl ?_
   refine nl ?_
   refine then_n ?_
   refine rt ?_
   refine then_r ?_
   refine fin_r ?_
   exact ⟨rfl, H.fr⟩
  ·have h5 := g5h (by simpa using hc1)
   refine sk ?_
   refine then_n ?_
   refine sq ?_
   refine rg ?_
   refine mv (v := .int .u16 _) rfl rfl ?_
   refine cvi rfl rfl Tryz.underlying3 (by first | exact w_i64 (by omega) | exact w_i64 (rng_i64 _) | rfl) rfl ?_
   refine rem rfl rfl (by omega) (by omega) rfl rfl ?_
   refine add (c := (n : Int)) rfl rfl (by rw [w_i64 (by omega)]; omega) rfl ?_
   refine asg (v := .int .i64 _) rfl rfl ?_
   refine nl ?_
   refine then_n ?_
   refine sq ?_
   refine rg ?_
   refine fa rfl fo24_1 rfl ?_
   refine st (v := .int .i64 _) H rfl rfl sc3 rfl (by show 0 + 1 < 5; decide) (by omega) ?_
   clear H; intro w91 H _
   refine fa rfl fo24_3 rfl ?_
   refine st (v := .bool _) H rfl rfl sc4 rfl (by show 0 + 3 < 5; decide) (by omega) ?_
   clear H; intro w92 H _
   refine fa rfl fo24_1 rfl ?_
   refine st (v := .int .i64 _) H rfl rfl sc3 rfl (by show 0 + 1 < 5; decide) (by omega) ?_
   clear H; intro w93 H _
   refine fa rfl fo24_3 rfl ?_
   refine st (v := .bool _) H rfl rfl sc4 rfl (by show 0 + 3 < 5; decide) (by omega) ?_
   clear H; intro w94 H _
   refine nl ?_
   refine then_n ?_
   refine sq ?_
   refine sq ?_
   refine rg ?_
   replace H := sh_cells0 (cs' := gtCells D m c 512 g true rc) H rfl
   replace H := sh_cells1 (cs' := gtCells D0 m0 c0 512 g0 true rc0) H rfl
   refine la (vs := gtCells D m c 512 g true rc) H rfl ag24_5 rfl rfl rfl ?_
   refine mv (v := .int .i64 _) rfl rfl ?_
   refine cvi rfl rfl Tryz.underlying28 (by first | exact w_u64 (by omega) | exact w_u64 (rng_u64 _) | exact m_u64 _) rfl ?_
   refine cl ca9 (c_good _ D m c g true rc ps (hq.keep H.fr) (hU.keep H.fr) n hn h5.2.2) rfl ?_
   rintro _ w5 ⟨gg, rfl, F, hgg⟩
   replace H := H.keep F; clear F
   refine unot rfl rfl ?_
   refine mv (v := .bool _) rfl rfl ?_
   refine sp (t := 43) rfl (fun hg2 => ?_) (fun hg2 => ?_)
   ·refine gn rfl rfl ?_
    refine gn rfl rfl ?_
    refine gn rfl rfl ?_
    refine gn rfl rfl ?_
    refine gn rfl rfl ?_
    refine pkT (v := .bool _) rfl rfl rfl ?_
    refine nl ?_
    refine then_n ?_
    refine cbT rfl rfl ?_
    refine sq ?_
    refine rg ?_
    refine cl ca10 (c_awake _) rfl ?_
    rintro _ w6 ⟨rfl, F⟩
    replace H := H.keep F; clear F
    refine asg (v := .bool _) rfl rfl ?_
    refine nl ?_
    refine then_n ?_
    refine rt ?_
    refine then_r ?_
    refine fin_r ?_
    exact ⟨rfl, H.fr⟩
   ·obtain ⟨hgu, hm, hgl⟩ := hgg (by simpa using hg2)
    have hfs : ∀ p ∈ ps, p.fits := fun p hp => (hgl.1 p hp).fits
    have hoks := hq.ok
    have hft := h5.2.2
    refine gy rfl ?_
    refine la (vs := gtCells D0 m0 c0 512 g0 true rc0) H rfl ag24_5 rfl rfl rfl ?_
    refine gy rfl ?_
    refine mv (v := .int .i64 _) rfl rfl ?_
    refine gy rfl ?_
    refine cvi rfl rfl Tryz.underlying28 (by first | exact w_u64 (by omega) | exact w_u64 (rng_u64 _) | exact m_u64 _) rfl ?_
    refine gy rfl ?_
    refine cl ca9 (c_good _ D0 m0 c0 g0 true rc0 ps0 (hq0.keep H.fr) (hU.keep H.fr) n hn h50.2.2) rfl ?_
    rintro _ w7 ⟨gg0, rfl, F, hgg0⟩
    replace H := H.keep F; clear F
    refine gy rfl ?_
    refine unot rfl rfl ?_
    refine pkF (v := .bool _) rfl rfl rfl ?_
    refine nl ?_
    refine then_n ?_
    refine cn rfl (fun hc2 => ?_) (fun hc2 => ?_)
    ·refine sq ?_
     refine rg ?_
     refine cl ca10 (c_awake _) rfl ?_
     rintro _ w8 ⟨rfl, F⟩
     replace H := H.keep F; clear F
     refine asg (v := .bool _) rfl rfl ?_
     refine nl ?_
     refine then_n ?_
     refine rt ?_
     refine then_r ?_
     refine fin_r ?_
     exact ⟨rfl, H.fr⟩
    ·obtain ⟨hgu0, hm0, hgl0⟩ := hgg0 (by simpa using hc2)
     have hfs0 : ∀ p ∈ ps0, p.fits := fun p hp => (hgl0.1 p hp).fits
     have hoks0 := hq0.ok
     have hft0 := h50.2.2
     refine sk ?_
     refine then_n ?_
     refine sq ?_
     refine rg ?_
     refine mv (v := .int .i64 _) rfl rfl ?_
     refine cl ca11 (c_partDisk _ n 512 0 (by omega) (by omega) (by omega)) rfl ?_
     rintro _ w9 ⟨bd, ds, rfl, hdl, hb1, ho1, F⟩
     replace H := H.new F hb1 ho1; clear F ho1
     refine asg (v := .slice _ _ _) rfl rfl ?_
     refine nl ?_
     refine then_n ?_
     refine sq ?_
     refine rg ?_
     refine mv (v := .slice _ _ _) rfl rfl ?_
     refine la (vs := gtCells D0 m0 c0 512 g0 true rc0) H rfl ag24_5 rfl rfl rfl ?_
     refine cl ca12 (c_gptEncode _ bd n (n * 512) _ ds D0 m0 c0 g0 rc0 ps0 (H.look (b := bd)) (by omega) (by omega) hdl (hq0.keep H.fr) (by omega) (fun p hp => ⟨hft0 p hp, hfs0 p hp⟩)) rfl ?_
     rintro _ w10 ⟨rfl, hlen, F, hnew⟩
     replace H := H.put (b := bd) F hnew; clear F hnew
     have O := old_enc (g := g0) (ps := ps0) hn hdl hfs0
     generalize encB ds n g0 ps0 = E at H O
     have hEl := O.len
     clear hlen
     refine nl ?_
     refine then_n ?_
     refine ctM (α := Addr × Nat) [13, 14, 15, 56, 57, 58, 59, 60, 61, 62, 63, 64] (fun (ad, cs) => [(14, .slice (some ad) 10 cs), (15, .bool true)]) (fun (ad, cs) w' => SH w [] w' [⟨bd, .cells (Bs E).toArray 5 (0, 0), true⟩, ⟨b2, .cells (gtCells D m c 512 g true rc).toArray 24 (0, 0), true⟩, ⟨b1, .cells (gtCells D0 m0 c0 512 g0 true rc0).toArray 24 (0, 0), true⟩] ∧ (∀ j u, ((stsW n g ps).flatMap St.cells)[j]? = some u → ∃ ad', some ad = some ad' ∧ w'.cell? (ad'.add j) = some u)) ?_ ?_
     ·refine dr (by kernel_rfl) ?_
      have H := H.drew
      refine hold (fun w' => SH w [] w' [⟨bd, .cells (Bs E).toArray 5 (0, 0), true⟩, ⟨b2, .cells (gtCells D m c 512 g true rc).toArray 24 (0, 0), true⟩, ⟨b1, .cells (gtCells D0 m0 c0 512 g0 true rc0).toArray 24 (0, 0), true⟩]) [4] ?_
      refine tk (i := 3) rfl (by kernel_rfl) rfl (H.subX) (fun w' H => r_la (vs := gtCells D m c 512 g true rc) H rfl ag24_5 rfl rfl) ?_
      refine manyA (R := [0, 1]) (by kernel_rfl) ?_ (by simp)
      simp only [List.forall_mem_cons]
      refine ⟨⟨_, rfl, rfl, ?_⟩, ⟨_, rfl, rfl, ?_⟩, by simp⟩
      ·refine bsl (sz := 1) (out := ?o1) H Tryz.underlying30 ze5 sz5_1 (by decide) ?f1 rfl ?_
       case f1 =>
        exact FS.nil
       clear H; intro b3 w11 hb3 H F
       refine nl ?_
       refine then_n ?_
       refine ⟨H.subX, ?_⟩
       refine fk (i := 1) (by kernel_rfl) rfl rfl rfl ?_
       refine mv (v := .slice _ _ _) rfl rfl ?_
       refine nl ?_
       refine then_n ?_
       refine ⟨H.subX, ?_⟩
       refine fk (i := 2) (by kernel_rfl) rfl rfl rfl ?_
       refine apZ (bs := E) H rfl rfl (RB.allm (b := bd) H hEl) Tryz.underlying30 ri5 (by omega) rfl ?_
       clear H; intro q9 c9 w12 hq9 hc9 hc9m _ H
       unfold maxLen at hc9m
       refine nl ?_
       refine then_n ?_
       refine ⟨H.subX, ?_⟩
       refine fb (i := 4) (by kernel_rfl) rfl rfl rfl ?_
       refine cl ca16 (c_gptWrite _ (some ⟨q9, 0, none⟩) c9 E D m c g rc ps n ⟨hn.1, by omega⟩ hEl (hEl ▸ RB.pre (b := q9) H) (hq.keep H.fr) hft hgl hm hgu) rfl ?_
       rintro _ w13 ⟨bx, cm, DS, cs, rfl, hcm, OW⟩
       have hrow := OW.cells
       obtain ⟨ad, rfl, _⟩ := hrow 0 _ rfl
       replace OW := OW.joinN H (by simp)
       simp only [List.cons_append, List.nil_append] at OW
       replace H := OW.sh; clear OW
       refine nl ?_
       refine then_n ?_
       refine holdH H [] ?_
       refine tk (i := 5) rfl (by kernel_rfl) rfl (H.subX) (fun w' H => r_mv (v := .tuple _) rfl) ?_
       refine tk (i := 6) rfl (by kernel_rfl) rfl (H.subX) (fun w' H => r_xt rfl rfl) ?_
       refine tk (i := 7) rfl (by kernel_rfl) rfl (H.subX) (fun w' H => r_xt rfl rfl) ?_
       refine tk (i := 8) rfl (by kernel_rfl) rfl (H.subX) (fun w' H => r_xt rfl rfl) ?_
       refine tk (i := 9) rfl (by kernel_rfl) rfl (H.subX) (fun w' H => r_asg (v := .slice _ _ _) rfl) ?_
       refine tk (i := 10) rfl (by kernel_rfl) rfl (H.subX) (fun w' H => r_asg (v := .slice _ _ _) rfl) ?_
       refine tk (i := 11) rfl (by kernel_rfl) rfl (H.subX) (fun w' H => r_asg (v := .bool _) rfl) ?_
       refine da (by kernel_rfl) ?_
       refine then_n ?_
       exact ⟨(ad, cs), ⟨H.subX, hrow⟩, (fCX (fCX (fN _))), agX⟩
      ·refine mv (v := .slice _ _ _) rfl rfl ?_
       refine nl ?_
       refine then_n ?_
       refine ⟨H.subX, ?_⟩
       refine fk (i := 0) (by kernel_rfl) rfl rfl rfl ?_
       refine bsl (sz := 1) (out := ?o2) H Tryz.underlying30 ze5 sz5_1 (by decide) ?f2 rfl ?_
       case f2 =>
        exact FS.nil
       clear H; intro b4 w14 hb4 H F
       refine nl ?_
       refine then_n ?_
       refine ⟨H.subX, ?_⟩
       refine fk (i := 2) (by kernel_rfl) rfl rfl rfl ?_
       refine apZ (bs := E) H rfl rfl (RB.allm (b := bd) H hEl) Tryz.underlying30 ri5 (by omega) rfl ?_
       clear H; intro q9 c9 w15 hq9 hc9 hc9m _ H
       unfold maxLen at hc9m
       refine nl ?_
       refine then_n ?_
       refine ⟨H.subX, ?_⟩
       refine fb (i := 4) (by kernel_rfl) rfl rfl rfl ?_
       refine cl ca16 (c_gptWrite _ (some ⟨q9, 0, none⟩) c9 E D m c g rc ps n ⟨hn.1, by omega⟩ hEl (hEl ▸ RB.pre (b := q9) H) (hq.keep H.fr) hft hgl hm hgu) rfl ?_
       rintro _ w16 ⟨bx, cm, DS, cs, rfl, hcm, OW⟩
       have hrow := OW.cells
       obtain ⟨ad, rfl, _⟩ := hrow 0 _ rfl
       replace OW := OW.joinN H (by simp)
       simp only [List.cons_append, List.nil_append] at OW
       replace H := OW.sh; clear OW
       refine nl ?_
       refine then_n ?_
       refine holdH H [] ?_
       refine tk (i := 5) rfl (by kernel_rfl) rfl (H.subX) (fun w' H => r_mv (v := .tuple _) rfl) ?_
       refine tk (i := 6) rfl (by kernel_rfl) rfl (H.subX) (fun w' H => r_xt rfl rfl) ?_
       refine tk (i := 7) rfl (by kernel_rfl) rfl (H.subX) (fun w' H => r_xt rfl rfl) ?_
       refine tk (i := 8) rfl (by kernel_rfl) rfl (H.subX) (fun w' H => r_xt rfl rfl) ?_
       refine tk (i := 9) rfl (by kernel_rfl) rfl (H.subX) (fun w' H => r_asg (v := .slice _ _ _) rfl) ?_
       refine tk (i := 10) rfl (by kernel_rfl) rfl (H.subX) (fun w' H => r_asg (v := .slice _ _ _) rfl) ?_
       refine tk (i := 11) rfl (by kernel_rfl) rfl (H.subX) (fun w' H => r_asg (v := .bool _) rfl) ?_
       refine da (by kernel_rfl) ?_
       refine then_n ?_
       exact ⟨(ad, cs), ⟨H.subX, hrow⟩, (fCX (fCX (fN _))), agX⟩
     ·rintro ⟨ad, cs⟩ ρx w17 ⟨H, hrow⟩
      refine sq ?_
      refine sq ?_
      refine rg ?_
      refine mv (v := .bool _) rfl rfl ?_
      refine unot rfl rfl ?_
      refine mv (v := .bool _) rfl rfl ?_
      refine spL (t := 67) (b := false) rfl ?_
      refine gy rfl ?_
      refine mv (v := .slice _ _ _) rfl rfl ?_
      refine gy rfl ?_
      refine lnS rfl Tryz.underlying39 rfl ?_
      refine gy rfl ?_
      refine eql rfl rfl rfl ?_
      refine pkF (v := .bool _) rfl rfl rfl ?_
      refine nl ?_
      refine then_n ?_
      refine cF rfl (by omega) ?_
      refine sk ?_
      refine then_n ?_
      refine sq ?_
      refine rg ?_
      refine mv (v := .int .u16 _) rfl rfl ?_
      refine cvi rfl rfl Tryz.underlying3 (by first | exact w_i64 (by omega) | exact w_i64 (rng_i64 _) | rfl) rfl ?_
      refine mv (v := .slice _ _ _) rfl rfl ?_
      refine lnS rfl Tryz.underlying39 rfl ?_
      refine add rfl rfl (by first | exact w_i64 (by omega) | exact w_i64 (rng_i64 _) | rfl) rfl ?_
      refine rem (c := (many : Int)) rfl rfl (by omega) (by omega) hmy.symm rfl ?_
      refine asg (v := .int .i64 _) rfl rfl ?_
      refine nl ?_
      refine then_n ?_
      refine sq ?_
      refine rg ?_
      refine mv (v := .slice _ _ _) rfl rfl ?_
      refine mv (v := .slice _ _ _) rfl rfl ?_
      refine mv (v := .int .i64 _) rfl rfl ?_
      refine mv (v := .int .u16 _) rfl rfl ?_
      refine cvi rfl rfl Tryz.underlying3 (by first | exact w_i64 (by omega) | exact w_i64 (rng_i64 _) | rfl) rfl ?_
      refine cl ca19 (c_stored _ (some ⟨bd, 0, none⟩) (n * 512) n many part E ad cs g ps ⟨hn.1, by omega⟩ (RB.allm (b := bd) H hEl) hrow hfs hm10 (by omega)) rfl ?_
      rintro _ w18 ⟨q8, c8, rfl, hc8, K⟩
      replace H := H.join K (by simp); simp only [List.cons_append, List.nil_append] at H; clear K
      obtain ⟨S, hend⟩ := sto_cut (part := part) O hn hfs hm10
      generalize stoN E (stsW n g ps) many part 10 = C at H S hend
      have hsame : many = 10 → sameT (gT (cutG C n)) g (usedP (cutA C n) 128) ps = true := fun h => cut_same hn hEl hgu hgl hoks (hend h)
      obtain ⟨hG16, hA16⟩ := S.lens hn
      have hCl := S.len
      generalize hZ : List.replicate (c8 - n * 512) (0 : UInt8) = Z at H
      refine asg (v := .slice _ _ _) rfl rfl ?_
      refine nl ?_
      refine then_n ?_
      refine sq ?_
      refine rg ?_
      refine mv (v := .slice _ _ _) rfl rfl ?_
      refine cl ca14 (c_gptDecode _ q8 n c8 5 (0, 0) (C ++ Z) (H.look (b := q8)) hn (by rw [List.length_append]; omega) hc8 (S.mbr hn).1 (S.mbr hn).2) rfl ?_
      rintro _ w19 ⟨D7, m7, cap7, s7, g7, X7, a7, rb7, b7, rfl, O7, hcs, hbb, hI⟩
      obtain ⟨rfl, rfl, rfl, rfl, rfl⟩ := S.gatIs hn hcs hbb hI
      clear hcs hbb hI
      generalize (true && decide ((((C ++ Z).getD 450 0).toNat : Int) = 238)) = p7
      replace O7 := O7.joinN H (by simp)
      simp only [List.append_nil] at O7
      replace H := O7.sh
      refine mv (v := .tuple _) rfl rfl ?_
      refine xt rfl rfl rfl ?_
      refine xt rfl rfl rfl ?_
      refine al H ze24 rfl ?_
      intro b5 w20 hb5 H1 F; replace O7 := O7.new F hb5 H1.look; clear H H1 F; have H := O7.sh
      refine sa (cs' := gtCells D7 (usedP (cutA C n) 128).length cap7 512 (gT (cutG C n)) p7 rb7) H rfl rfl ag24_5 rfl rfl (by show 0 + 5 ≤ 5; decide) (by omega) rfl ?_
      intro w95 H1 F; replace O7 := O7.put F H1.look; clear H H1 F; have H := O7.sh
      refine asg (v := .bool _) rfl rfl ?_
      refine nl ?_
      refine then_n ?_
      refine sq ?_
      refine rg ?_
      have F7 := H.fr
      have hR7 := RG.of_own (ps := (usedP (cutA C n) 128)) O7 (used_ok _ _ (by decide))
      have H2 := H.anew
      simp only [List.map] at H2
      clear H; have H := H2; clear H2
      replace hq := hq.keep F7; replace hq0 := hq0.keep F7
      refine mv (v := .slice _ _ _) rfl rfl ?_
      obtain ⟨R1, R2, R3, R4, R5, R6⟩ := S.read hn
      refine cl ca17 (c_implGptRead _ (some ⟨q8, 0, none⟩) (n * 512) c8 C (hCl ▸ RB.pre (b := q8) H) (by omega) (n - 1) (n - 33) (by omega) (by omega) R3 R4 R5 R6) rfl ?_
      rintro _ w21 ⟨FR, v1, rfl, r1, r2, _⟩
      rw [R1] at r1; rw [R1, R2] at r2
      rw [R1, R2, S.ok]
      obtain ⟨D9, cR, p9, rb9, rfl, O9⟩ := S.told r1 r2
      clear r1 r2 FR
      replace O9 := O9.joinN H (by simp)
      simp only [List.append_nil] at O9
      replace H := O9.sh
      refine mv (v := .tuple _) rfl rfl ?_
      refine xt rfl rfl rfl ?_
      refine xt rfl rfl rfl ?_
      refine al H ze24 rfl ?_
      intro b6 w22 hb6 H1 F; replace O9 := O9.new F hb6 H1.look; clear H H1 F; have H := O9.sh
      refine sa (cs' := gtCells D9 (usedP (cutA C n) 128).length cR 512 (gT (cutG C n)) p9 rb9) H rfl rfl ag24_5 rfl rfl (by show 0 + 5 ≤ 5; decide) (by omega) rfl ?_
      intro w96 H1 F; replace O9 := O9.put F H1.look; clear H H1 F; have H := O9.sh
      refine asg (v := .bool _) rfl rfl ?_
      refine nl ?_
      refine then_n ?_
      refine sq ?_
      refine sq ?_
      refine rg ?_
      have F9 := H.fr
      have hR9 := RG.of_own (ps := (usedP (cutA C n) 128)) O9 (used_ok _ _ (by decide))
      have H2 := H.anew
      simp only [List.map] at H2
      clear H; have H := H2; clear H2
      replace hq := hq.keep F9; replace hq0 := hq0.keep F9
      replace hR7 := hR7.keep F9
      refine mv (v := .bool _) rfl rfl ?_
      refine mv (v := .bool _) rfl rfl ?_
      refine spL (t := 95) (b := true) rfl ?_
      refine gy rfl ?_
      refine mv (v := .int .i64 _) rfl rfl ?_
      refine gy rfl ?_
      refine mv (v := .slice _ _ _) rfl rfl ?_
      refine gy rfl ?_
      refine lnS rfl Tryz.underlying39 rfl ?_
      refine gy rfl ?_
      refine lss rfl rfl rfl ?_
      refine pkT (v := .bool _) rfl rfl rfl ?_
      refine mv (v := .bool _) rfl rfl ?_
      refine spd (t := 101) rfl (fun hg5 => ?_) (fun hg5 => ?_)
      ·refine gy rfl ?_
       refine la (vs := gtCells D7 (usedP (cutA C n) 128).length cap7 512 (gT (cutG C n)) p7 rb7) H rfl ag24_5 rfl rfl rfl ?_
       refine gy rfl ?_
       refine la (vs := gtCells D0 m0 c0 512 g0 true rc0) H rfl ag24_5 rfl rfl rfl ?_
       refine gy rfl ?_
       refine cl ca15 (c_sameGpt _ D7 D0 _ cap7 m0 c0 (gT (cutG C n)) g0 _ _ _ _ (usedP (cutA C n) 128) ps0 (hR7.keep H.fr) (hq0.keep H.fr) (by have := usedP_le (cutA C n) 128; omega)) rfl ?_
       rintro _ w23 ⟨rfl, F⟩
       replace H := H.keep F; clear F
       refine gy rfl ?_
       refine unot rfl rfl ?_
       refine pkT (v := .bool _) rfl rfl rfl ?_
       refine mv (v := .bool _) rfl rfl ?_
       refine sp (t := 107) rfl (fun hg6 => ?_) (fun hg6 => ?_)
       ·refine gy rfl ?_
        refine la (vs := gtCells D7 (usedP (cutA C n) 128).length cap7 512 (gT (cutG C n)) p7 rb7) H rfl ag24_5 rfl rfl rfl ?_
        refine gy rfl ?_
        refine la (vs := gtCells D m c 512 g true rc) H rfl ag24_5 rfl rfl rfl ?_
        refine gy rfl ?_
        refine cl ca15 (c_sameGpt _ D7 D _ cap7 m c (gT (cutG C n)) g _ _ _ _ (usedP (cutA C n) 128) ps (hR7.keep H.fr) (hq.keep H.fr) (by have := usedP_le (cutA C n) 128; omega)) rfl ?_
        rintro _ w24 ⟨rfl, F⟩
        replace H := H.keep F; clear F
        refine gy rfl ?_
        refine unot rfl rfl ?_
        refine pkT (v := .bool _) rfl rfl rfl ?_
        refine nl ?_
        refine then_n ?_
        refine cn rfl (fun hc4 => ?_) (fun hc4 => ?_)
        ·refine sq ?_
         refine rg ?_
         refine cl ca10 (c_awake _) rfl ?_
         rintro _ w25 ⟨rfl, F⟩
         replace H := H.keep F; clear F
         refine asg (v := .bool _) rfl rfl ?_
         refine nl ?_
         refine then_n ?_
         refine rt ?_
         refine then_r ?_
         refine fin_r ?_
         exact ⟨rfl, F7.trans (F9.trans H.fr)⟩
        ·refine sk ?_
         refine then_n ?_
         refine sq ?_
         refine dr (by kernel_rfl) ?_
         have H := H.drew
         refine holdH H [] ?_
         refine tk (i := 0) rfl (by kernel_rfl) rfl H (fun w' H => r_mv (v := .bool _) rfl) ?_
         refine tk (i := 1) rfl (by kernel_rfl) rfl H (fun w' H => r_mv (v := .bool _) rfl) ?_
         refine spaL (t := 115) (b := true) rfl ?_
         refine tkg (i := 2) rfl (by kernel_rfl) rfl H rfl (fun w' H => r_mv (v := .bool _) rfl) ?_
         refine tk (i := 3) rfl (by kernel_rfl) rfl H (fun w' H => r_pkT (v := .bool _) rfl rfl) ?_
         refine tk (i := 4) rfl (by kernel_rfl) rfl H (fun w' H => r_mv (v := .bool _) rfl) ?_
         refine spaL (t := 118) (b := true) rfl ?_
         refine tkg (i := 5) rfl (by kernel_rfl) rfl H rfl (fun w' H => r_la (vs := gtCells D7 (usedP (cutA C n) 128).length cap7 512 (gT (cutG C n)) p7 rb7) H rfl ag24_5 rfl rfl) ?_
         refine tkg (i := 6) rfl (by kernel_rfl) rfl H rfl (fun w' H => r_la (vs := gtCells D9 (usedP (cutA C n) 128).length cR 512 (gT (cutG C n)) p9 rb9) H rfl ag24_5 rfl rfl) ?_
         refine fk (i := 7) (by kernel_rfl) rfl rfl rfl ?_
         refine gy rfl ?_
         refine cl ca18 (c_used _ D9 _ cR _ _ _ (usedP (cutA C n) 128) (hR9.keep H.fr) (by have := usedP_le (cutA C n) 128; omega)) rfl ?_
         rintro _ w26 ⟨DU2, cU2, rfl, OU⟩
         rw [used_keep hA16] at OU ⊢
         replace H := H.keep OU.sh.fr
         have hRU := RG.of_own (ps := (usedP (cutA C n) 128)) OU (used_ok _ _ (by decide))
         have hRH := H.fr
         refine nl ?_
         refine then_n ?_
         refine ⟨H, ?_⟩
         refine fk (i := 8) (by kernel_rfl) rfl rfl rfl ?_
         refine gy rfl ?_
         refine cl ca15 (c_sameGpt _ D7 DU2 _ cap7 _ cU2 (gT (cutG C n)) (gT (cutG C n)) _ _ _ _ (usedP (cutA C n) 128) (usedP (cutA C n) 128) (hR7.keep H.fr) hRU (by have := usedP_le (cutA C n) 128; omega)) rfl ?_
         rintro _ w27 ⟨rfl, F⟩
         replace H := H.keep F; clear F
         rw [used_same hA16 hG16]
         refine nl ?_
         refine then_n ?_
         refine ⟨H, ?_⟩
         refine tk (i := 9) rfl (by kernel_rfl) rfl H (fun w' H => r_pkT (v := .bool _) rfl rfl) ?_
         refine tk (i := 10) rfl (by kernel_rfl) rfl H (fun w' H => r_mv (v := .bool _) rfl) ?_
         refine spaL (t := 124) (b := true) rfl ?_
         refine tkg (i := 11) rfl (by kernel_rfl) rfl H rfl (fun w' H => r_mv (v := .int .i64 _) rfl) ?_
         refine tkg (i := 12) rfl (by kernel_rfl) rfl H rfl (fun w' H => r_mv (v := .slice _ _ _) rfl) ?_
         refine tkg (i := 13) rfl (by kernel_rfl) rfl H rfl (fun w' H => r_lnS rfl Tryz.underlying39) ?_
         refine tkg (i := 14) rfl (by kernel_rfl) rfl H rfl (fun w' H => r_lss rfl rfl) ?_
         refine tkg (i := 15) rfl (by kernel_rfl) rfl H rfl (fun w' H => r_mv (v := .bool _) rfl) ?_
         refine spaT (t := 129) rfl (by omega) ?_
         refine tkn (i := 16) rfl (by kernel_rfl) rfl H rfl ?_
         refine tkn (i := 17) rfl (by kernel_rfl) rfl H rfl ?_
         refine tkn (i := 18) rfl (by kernel_rfl) rfl H rfl ?_
         refine tkg (i := 19) rfl (by kernel_rfl) rfl H rfl (fun w' H => r_pkT (v := .bool _) rfl rfl) ?_
         refine tk (i := 20) rfl (by kernel_rfl) rfl H (fun w' H => r_pkT (v := .bool _) rfl rfl) ?_
         refine tk (i := 21) rfl (by kernel_rfl) rfl H (fun w' H => r_mv (v := .bool _) rfl) ?_
         refine fk (i := 22) (by kernel_rfl) rfl rfl rfl ?_
         refine gy rfl ?_
         refine cl ca10 (c_awake _) rfl ?_
         rintro _ w28 ⟨rfl, F⟩
         replace H := H.keep F; clear F
         refine nl ?_
         refine then_n ?_
         refine ⟨H, ?_⟩
         refine tk (i := 23) rfl (by kernel_rfl) rfl H (fun w' H => r_pkT (v := .bool _) rfl rfl) ?_
         refine tk (i := 24) rfl (by kernel_rfl) rfl H (fun w' H => r_asg (v := .bool _) rfl) ?_
         refine da (by kernel_rfl) ?_
         refine then_n ?_
         refine rt ?_
         refine fin_r ?_
         exact ⟨rfl, F7.trans (F9.trans H.fr)⟩
       ·refine gn rfl rfl ?_
        refine gn rfl rfl ?_
        refine gn rfl rfl ?_
        refine gn rfl rfl ?_
        refine pkF (v := .bool _) rfl rfl rfl ?_
        refine nl ?_
        refine then_n ?_
        refine cbF rfl rfl ?_
        refine sk ?_
        refine then_n ?_
        refine sq ?_
        refine dr (by kernel_rfl) ?_
        have H := H.drew
        refine holdH H [] ?_
        refine tk (i := 0) rfl (by kernel_rfl) rfl H (fun w' H => r_mv (v := .bool _) rfl) ?_
        refine tk (i := 1) rfl (by kernel_rfl) rfl H (fun w' H => r_mv (v := .bool _) rfl) ?_
        refine spaL (t := 115) (b := true) rfl ?_
        refine tkg (i := 2) rfl (by kernel_rfl) rfl H rfl (fun w' H => r_mv (v := .bool _) rfl) ?_
        refine tk (i := 3) rfl (by kernel_rfl) rfl H (fun w' H => r_pkT (v := .bool _) rfl rfl) ?_
        refine tk (i := 4) rfl (by kernel_rfl) rfl H (fun w' H => r_mv (v := .bool _) rfl) ?_
        refine spaL (t := 118) (b := true) rfl ?_
        refine tkg (i := 5) rfl (by kernel_rfl) rfl H rfl (fun w' H => r_la (vs := gtCells D7 (usedP (cutA C n) 128).length cap7 512 (gT (cutG C n)) p7 rb7) H rfl ag24_5 rfl rfl) ?_
        refine tkg (i := 6) rfl (by kernel_rfl) rfl H rfl (fun w' H => r_la (vs := gtCells D9 (usedP (cutA C n) 128).length cR 512 (gT (cutG C n)) p9 rb9) H rfl ag24_5 rfl rfl) ?_
        refine fk (i := 7) (by kernel_rfl) rfl rfl rfl ?_
        refine gy rfl ?_
        refine cl ca18 (c_used _ D9 _ cR _ _ _ (usedP (cutA C n) 128) (hR9.keep H.fr) (by have := usedP_le (cutA C n) 128; omega)) rfl ?_
        rintro _ w29 ⟨DU2, cU2, rfl, OU⟩
        rw [used_keep hA16] at OU ⊢
        replace H := H.keep OU.sh.fr
        have hRU := RG.of_own (ps := (usedP (cutA C n) 128)) OU (used_ok _ _ (by decide))
        have hRH := H.fr
        refine nl ?_
        refine then_n ?_
        refine ⟨H, ?_⟩
        refine fk (i := 8) (by kernel_rfl) rfl rfl rfl ?_
        refine gy rfl ?_
        refine cl ca15 (c_sameGpt _ D7 DU2 _ cap7 _ cU2 (gT (cutG C n)) (gT (cutG C n)) _ _ _ _ (usedP (cutA C n) 128) (usedP (cutA C n) 128) (hR7.keep H.fr) hRU (by have := usedP_le (cutA C n) 128; omega)) rfl ?_
        rintro _ w30 ⟨rfl, F⟩
        replace H := H.keep F; clear F
        rw [used_same hA16 hG16]
        refine nl ?_
        refine then_n ?_
        refine ⟨H, ?_⟩
        refine tk (i := 9) rfl (by kernel_rfl) rfl H (fun w' H => r_pkT (v := .bool _) rfl rfl) ?_
        refine tk (i := 10) rfl (by kernel_rfl) rfl H (fun w' H => r_mv (v := .bool _) rfl) ?_
        refine spaL (t := 124) (b := true) rfl ?_
        refine tkg (i := 11) rfl (by kernel_rfl) rfl H rfl (fun w' H => r_mv (v := .int .i64 _) rfl) ?_
        refine tkg (i := 12) rfl (by kernel_rfl) rfl H rfl (fun w' H => r_mv (v := .slice _ _ _) rfl) ?_
        refine tkg (i := 13) rfl (by kernel_rfl) rfl H rfl (fun w' H => r_lnS rfl Tryz.underlying39) ?_
        refine tkg (i := 14) rfl (by kernel_rfl) rfl H rfl (fun w' H => r_lss rfl rfl) ?_
        refine tkg (i := 15) rfl (by kernel_rfl) rfl H rfl (fun w' H => r_mv (v := .bool _) rfl) ?_
        refine spaT (t := 129) rfl (by omega) ?_
        refine tkn (i := 16) rfl (by kernel_rfl) rfl H rfl ?_
        refine tkn (i := 17) rfl (by kernel_rfl) rfl H rfl ?_
        refine tkn (i := 18) rfl (by kernel_rfl) rfl H rfl ?_
        refine tkg (i := 19) rfl (by kernel_rfl) rfl H rfl (fun w' H => r_pkT (v := .bool _) rfl rfl) ?_
        refine tk (i := 20) rfl (by kernel_rfl) rfl H (fun w' H => r_pkT (v := .bool _) rfl rfl) ?_
        refine tk (i := 21) rfl (by kernel_rfl) rfl H (fun w' H => r_mv (v := .bool _) rfl) ?_
        refine fk (i := 22) (by kernel_rfl) rfl rfl rfl ?_
        refine gy rfl ?_
        refine cl ca10 (c_awake _) rfl ?_
        rintro _ w31 ⟨rfl, F⟩
        replace H := H.keep F; clear F
        refine nl ?_
        refine then_n ?_
        refine ⟨H, ?_⟩
        refine tk (i := 23) rfl (by kernel_rfl) rfl H (fun w' H => r_pkT (v := .bool _) rfl rfl) ?_
        refine tk (i := 24) rfl (by kernel_rfl) rfl H (fun w' H => r_asg (v := .bool _) rfl) ?_
        refine da (by kernel_rfl) ?_
        refine then_n ?_
        refine rt ?_
        refine fin_r ?_
        exact ⟨rfl, F7.trans (F9.trans H.fr)⟩
      ·refine gn rfl rfl ?_
       refine gn rfl rfl ?_
       refine gn rfl rfl ?_
       refine gn rfl rfl ?_
       refine pkF (v := .bool _) rfl rfl rfl ?_
       refine mv (v := .bool _) rfl rfl ?_
       refine gn rfl rfl ?_
       refine gn rfl rfl ?_
       refine gn rfl rfl ?_
       refine gn rfl rfl ?_
       refine pkF (v := .bool _) rfl rfl rfl ?_
       refine nl ?_
       refine then_n ?_
       refine cbF rfl rfl ?_
       refine sk ?_
       refine then_n ?_
       refine sq ?_
       refine dr (by kernel_rfl) ?_
       have H := H.drew
       refine holdH H [] ?_
       refine tk (i := 0) rfl (by kernel_rfl) rfl H (fun w' H => r_mv (v := .bool _) rfl) ?_
       refine tk (i := 1) rfl (by kernel_rfl) rfl H (fun w' H => r_mv (v := .bool _) rfl) ?_
       refine spaL (t := 115) (b := true) rfl ?_
       refine tkg (i := 2) rfl (by kernel_rfl) rfl H rfl (fun w' H => r_mv (v := .bool _) rfl) ?_
       refine tk (i := 3) rfl (by kernel_rfl) rfl H (fun w' H => r_pkT (v := .bool _) rfl rfl) ?_
       refine tk (i := 4) rfl (by kernel_rfl) rfl H (fun w' H => r_mv (v := .bool _) rfl) ?_
       refine spaL (t := 118) (b := true) rfl ?_
       refine tkg (i := 5) rfl (by kernel_rfl) rfl H rfl (fun w' H => r_la (vs := gtCells D7 (usedP (cutA C n) 128).length cap7 512 (gT (cutG C n)) p7 rb7) H rfl ag24_5 rfl rfl) ?_
       refine tkg (i := 6) rfl (by kernel_rfl) rfl H rfl (fun w' H => r_la (vs := gtCells D9 (usedP (cutA C n) 128).length cR 512 (gT (cutG C n)) p9 rb9) H rfl ag24_5 rfl rfl) ?_
       refine fk (i := 7) (by kernel_rfl) rfl rfl rfl ?_
       refine gy rfl ?_
       refine cl ca18 (c_used _ D9 _ cR _ _ _ (usedP (cutA C n) 128) (hR9.keep H.fr) (by have := usedP_le (cutA C n) 128; omega)) rfl ?_
       rintro _ w32 ⟨DU2, cU2, rfl, OU⟩
       rw [used_keep hA16] at OU ⊢
       replace H := H.keep OU.sh.fr
       have hRU := RG.of_own (ps := (usedP (cutA C n) 128)) OU (used_ok _ _ (by decide))
       have hRH := H.fr
       refine nl ?_
       refine then_n ?_
       refine ⟨H, ?_⟩
       refine fk (i := 8) (by kernel_rfl) rfl rfl rfl ?_
       refine gy rfl ?_
       refine cl ca15 (c_sameGpt _ D7 DU2 _ cap7 _ cU2 (gT (cutG C n)) (gT (cutG C n)) _ _ _ _ (usedP (cutA C n) 128) (usedP (cutA C n) 128) (hR7.keep H.fr) hRU (by have := usedP_le (cutA C n) 128; omega)) rfl ?_
       rintro _ w33 ⟨rfl, F⟩
       replace H := H.keep F; clear F
       rw [used_same hA16 hG16]
       refine nl ?_
       refine then_n ?_
       refine ⟨H, ?_⟩
       refine tk (i := 9) rfl (by kernel_rfl) rfl H (fun w' H => r_pkT (v := .bool _) rfl rfl) ?_
       refine tk (i := 10) rfl (by kernel_rfl) rfl H (fun w' H => r_mv (v := .bool _) rfl) ?_
       refine spaL (t := 124) (b := true) rfl ?_
       refine tkg (i := 11) rfl (by kernel_rfl) rfl H rfl (fun w' H => r_mv (v := .int .i64 _) rfl) ?_
       refine tkg (i := 12) rfl (by kernel_rfl) rfl H rfl (fun w' H => r_mv (v := .slice _ _ _) rfl) ?_
       refine tkg (i := 13) rfl (by kernel_rfl) rfl H rfl (fun w' H => r_lnS rfl Tryz.underlying39) ?_
       refine tkg (i := 14) rfl (by kernel_rfl) rfl H rfl (fun w' H => r_lss rfl rfl) ?_
       refine tkg (i := 15) rfl (by kernel_rfl) rfl H rfl (fun w' H => r_mv (v := .bool _) rfl) ?_
       refine spaF (t := 129) rfl (by omega) ?_
       refine tkg (i := 16) rfl (by kernel_rfl) rfl H rfl (fun w' H => r_la (vs := gtCells D7 (usedP (cutA C n) 128).length cap7 512 (gT (cutG C n)) p7 rb7) H rfl ag24_5 rfl rfl) ?_
       refine tkg (i := 17) rfl (by kernel_rfl) rfl H rfl (fun w' H => r_la (vs := gtCells D m c 512 g true rc) H rfl ag24_5 rfl rfl) ?_
       refine fk (i := 18) (by kernel_rfl) rfl rfl rfl ?_
       refine gy rfl ?_
       refine cl ca15 (c_sameGpt _ D7 D _ cap7 m c (gT (cutG C n)) g _ _ _ _ (usedP (cutA C n) 128) ps (hR7.keep H.fr) (hq.keep H.fr) (by have := usedP_le (cutA C n) 128; omega)) rfl ?_
       rintro _ w34 ⟨rfl, F⟩
       replace H := H.keep F; clear F
       rw [hsame (by omega)]
       refine nl ?_
       refine then_n ?_
       refine ⟨H, ?_⟩
       refine tkg (i := 19) rfl (by kernel_rfl) rfl H rfl (fun w' H => r_pkF (v := .bool _) rfl rfl) ?_
       refine tk (i := 20) rfl (by kernel_rfl) rfl H (fun w' H => r_pkT (v := .bool _) rfl rfl) ?_
       refine tk (i := 21) rfl (by kernel_rfl) rfl H (fun w' H => r_mv (v := .bool _) rfl) ?_
       refine spaL (t := 135) (b := true) rfl ?_
       refine fk (i := 22) (by kernel_rfl) rfl rfl rfl ?_
       refine gy rfl ?_
       refine cl ca10 (c_awake _) rfl ?_
       rintro _ w35 ⟨rfl, F⟩
       replace H := H.keep F; clear F
       refine nl ?_
       refine then_n ?_
       refine ⟨H, ?_⟩
       refine tk (i := 23) rfl (by kernel_rfl) rfl H (fun w' H => r_pkT (v := .bool _) rfl rfl) ?_
       refine tk (i := 24) rfl (by kernel_rfl) rfl H (fun w' H => r_asg (v := .bool _) rfl) ?_
       refine da (by kernel_rfl) ?_
       refine then_n ?_
       refine rt ?_
       refine fin_r ?_
       exact ⟨rfl, F7.trans (F9.trans H.fr)⟩
end Go.Proofs.YthcaejaaalkglaaGreatDoor.X
