/- Laws and walks on the road to the statement: RunePure, Shape, MbrPure, GptPure, Join, PtrRow, GptRow, Utf8W, GptShape, LaidU, Draw, Runs, Results, MapSteps, Steps5, EqAgg, EqRows, LePure. -/
import Derived.Test.YthcaejaaalkglaaDoorM1
import Derived.OpenShut
import Derived.ChangeArms
import Derived.Test.YthcaejaaalkglaaDoorRows
import Derived.ProofKit
import Derived.LaidMore
import Derived.Lay
import Derived.Stop.Joined
import Derived.OrdersHeld
import Derived.WideMake
import Derived.Laws.StructEq
/- The letters of a text, its units of sixteen bits, and back. -/
namespace Go.Proofs.YthcaejaaalkglaaDoor.X
open Go
set_option linter.unusedVariables false
set_option linter.unusedSimpArgs false
theorem get_str (bs : List UInt8) (i : Nat) : (str bs).get! i = bs.getD i 0 := by
  simp [str, ByteArray.get!, getElem!_def, List.getD_eq_getElem?_getD]
  cases h : bs[i]? <;> simp
  rfl
theorem decode_drop (bs : List UInt8) (i : Nat) : Utf8.decode (str bs) i = Utf8.decode (str (bs.drop i)) 0 := by
  have hg : ∀ k, (str bs).get! (i + k) = (str (bs.drop i)).get! (0 + k) := fun k => by
    rw [get_str, get_str]; simp [List.getD_eq_getElem?_getD, Nat.add_comm]
  have hs : ∀ k, decide (i + k < (str bs).size) = decide (0 + k < (str (bs.drop i)).size) := fun k => by
    rw [size_str, size_str]; simp; omega
  unfold Utf8.decode
  simp only [hg, hs]
def rune1 (bs : List UInt8) : Nat × Nat := Utf8.decode (str bs) 0
def rOk (l : List UInt8) (p : Nat × Nat) : Prop :=
  1 ≤ p.2 ∧ p.2 ≤ l.length ∧ p.2 ≤ 4 ∧ p.1 ≤ 1114111 ∧ (p.1 < 55296 ∨ 57343 < p.1) ∧ (65536 ≤ p.1 → p.2 = 4) ∧ (p.1 ≠ 65533 → Utf8.encode (p.1 : Int) = str (l.take p.2))
theorem enc_of {c : Nat} (hv : c < 55296 ∨ (57343 < c ∧ c ≤ 1114111)) : Utf8.encode (c : Int) =
    (if c < 0x80 then ⟨#[UInt8.ofNat c]⟩
     else if c < 0x800 then ⟨#[UInt8.ofNat (0xC0 + c / 64), UInt8.ofNat (0x80 + c % 64)]⟩
     else if c < 0x10000 then ⟨#[UInt8.ofNat (0xE0 + c / 4096), UInt8.ofNat (0x80 + c / 64 % 64), UInt8.ofNat (0x80 + c % 64)]⟩
     else ⟨#[UInt8.ofNat (0xF0 + c / 262144), UInt8.ofNat (0x80 + c / 4096 % 64), UInt8.ofNat (0x80 + c / 64 % 64), UInt8.ofNat (0x80 + c % 64)]⟩) := by
  unfold Utf8.encode
  have h : Utf8.valid (c : Int) = true := by unfold Utf8.valid; simp; omega
  rw [h]
  simp only [if_true, Int.toNat_natCast]
theorem u8_eq {n : Nat} {b : UInt8} (h : n = b.toNat) : UInt8.ofNat n = b := by subst h; simp
theorem rOk_err {l : List UInt8} (h : l ≠ []) : rOk l (Utf8.runeError, 1) := by
  have : 0 < l.length := List.length_pos_iff.2 h
  refine ⟨by decide, this, by decide, by decide, by decide, ?_, ?_⟩
  · intro h; exact absurd h (by decide)
  · intro h; exact absurd rfl h
theorem rune1_ok {l : List UInt8} (h : l ≠ []) : rOk l (rune1 l) := by
  obtain ⟨b0, l0, rfl⟩ := List.exists_cons_of_ne_nil h
  have herr := rOk_err h
  have hb0 := b0.toNat_lt
  unfold rune1 Utf8.decode
  simp only [get_str, size_str, Nat.zero_add]
  have g0 : (b0 :: l0).getD 0 0 = b0 := rfl
  rw [g0]
  by_cases h1 : b0.toNat < 0x80
  · rw [if_pos h1]
    refine ⟨by simp, by simp, by simp, by simp; omega, by simp; omega, by simp; omega, fun _ => ?_⟩
    rw [enc_of (by simp; omega), if_pos h1]
    simp [str]
  rw [if_neg h1]
  by_cases h2 : (b0.toNat / 32 == 6 && (decide (1 < (b0 :: l0).length) && ((b0 :: l0).getD 1 0).toNat / 64 == 2)) = true
  · rw [if_pos h2]
    simp only [Bool.and_eq_true, beq_iff_eq, decide_eq_true_eq] at h2
    obtain ⟨h2a, h2b, h2c⟩ := h2
    obtain ⟨b1, l1, rfl⟩ : ∃ b l, l0 = b :: l := List.exists_cons_of_ne_nil (by rintro rfl; simp at h2b)
    have g1 : (b0 :: b1 :: l1).getD 1 0 = b1 := rfl
    rw [g1] at h2c ⊢
    have hb1 := b1.toNat_lt
    by_cases hc : (b0.toNat % 32) * 64 + b1.toNat % 64 ≥ 0x80
    · rw [if_pos hc]
      refine ⟨by simp, by simp, by simp, by simp; omega, by simp; omega, by simp; omega, fun _ => ?_⟩
      rw [enc_of (by simp; omega), if_neg (by simp only; omega), if_pos (by simp only; omega)]
      simp only [str, List.take_succ_cons, List.take_zero]
      rw [u8_eq (b := b0) (by omega), u8_eq (b := b1) (by omega)]
    · rw [if_neg hc]; exact herr
  rw [if_neg h2]
  by_cases h3 : (b0.toNat / 16 == 14 && (decide (1 < (b0 :: l0).length) && ((b0 :: l0).getD 1 0).toNat / 64 == 2) && (decide (2 < (b0 :: l0).length) && ((b0 :: l0).getD 2 0).toNat / 64 == 2)) = true
  · rw [if_pos h3]
    simp only [Bool.and_eq_true, beq_iff_eq, decide_eq_true_eq] at h3
    obtain ⟨⟨h3a, h3b, h3c⟩, h3d, h3e⟩ := h3
    obtain ⟨b1, l1, rfl⟩ : ∃ b l, l0 = b :: l := List.exists_cons_of_ne_nil (by rintro rfl; simp at h3b)
    obtain ⟨b2, l2, rfl⟩ : ∃ b l, l1 = b :: l := List.exists_cons_of_ne_nil (by rintro rfl; simp at h3d)
    have g1 : (b0 :: b1 :: b2 :: l2).getD 1 0 = b1 := rfl
    have g2 : (b0 :: b1 :: b2 :: l2).getD 2 0 = b2 := rfl
    rw [g1] at h3c; rw [g2] at h3e; rw [g1, g2]
    have hb1 := b1.toNat_lt; have hb2 := b2.toNat_lt
    by_cases hc : ((b0.toNat % 16) * 4096 + (b1.toNat % 64) * 64 + b2.toNat % 64 ≥ 0x800 && Utf8.valid (((b0.toNat % 16) * 4096 + (b1.toNat % 64) * 64 + b2.toNat % 64 : Nat) : Int)) = true
    · rw [if_pos (by simpa using hc)]
      simp only [Bool.and_eq_true, decide_eq_true_eq] at hc
      obtain ⟨hc1, hc2⟩ := hc
      have hv := hc2
      unfold Utf8.valid at hv
      simp only [Bool.or_eq_true, Bool.and_eq_true, decide_eq_true_eq] at hv
      refine ⟨by simp, by simp, by simp, by simp only; omega, by simp only; omega, by simp only; omega, fun _ => ?_⟩
      rw [enc_of (by simp only; omega), if_neg (by simp only; omega), if_neg (by simp only; omega), if_pos (by simp only; omega)]
      simp only [str, List.take_succ_cons, List.take_zero]
      rw [u8_eq (b := b0) (by omega), u8_eq (b := b1) (by omega), u8_eq (b := b2) (by omega)]
    · rw [if_neg (by simpa using hc)]; exact herr
  rw [if_neg h3]
  by_cases h4 : (b0.toNat / 8 == 30 && (decide (1 < (b0 :: l0).length) && ((b0 :: l0).getD 1 0).toNat / 64 == 2) && (decide (2 < (b0 :: l0).length) && ((b0 :: l0).getD 2 0).toNat / 64 == 2) && (decide (3 < (b0 :: l0).length) && ((b0 :: l0).getD 3 0).toNat / 64 == 2)) = true
  · rw [if_pos h4]
    simp only [Bool.and_eq_true, beq_iff_eq, decide_eq_true_eq] at h4
    obtain ⟨⟨⟨h3a, h3b, h3c⟩, h3d, h3e⟩, h3f, h3g⟩ := h4
    obtain ⟨b1, l1, rfl⟩ : ∃ b l, l0 = b :: l := List.exists_cons_of_ne_nil (by rintro rfl; simp at h3b)
    obtain ⟨b2, l2, rfl⟩ : ∃ b l, l1 = b :: l := List.exists_cons_of_ne_nil (by rintro rfl; simp at h3d)
    obtain ⟨b3, l3, rfl⟩ : ∃ b l, l2 = b :: l := List.exists_cons_of_ne_nil (by rintro rfl; simp at h3f)
    have g1 : (b0 :: b1 :: b2 :: b3 :: l3).getD 1 0 = b1 := rfl
    have g2 : (b0 :: b1 :: b2 :: b3 :: l3).getD 2 0 = b2 := rfl
    have g3 : (b0 :: b1 :: b2 :: b3 :: l3).getD 3 0 = b3 := rfl
    rw [g1] at h3c; rw [g2] at h3e; rw [g3] at h3g; rw [g1, g2, g3]
    have hb1 := b1.toNat_lt; have hb2 := b2.toNat_lt; have hb3 := b3.toNat_lt
    by_cases hc : ((b0.toNat % 8) * 262144 + (b1.toNat % 64) * 4096 + (b2.toNat % 64) * 64 + b3.toNat % 64 ≥ 0x10000 && Utf8.valid (((b0.toNat % 8) * 262144 + (b1.toNat % 64) * 4096 + (b2.toNat % 64) * 64 + b3.toNat % 64 : Nat) : Int)) = true
    · rw [if_pos (by simpa using hc)]
      simp only [Bool.and_eq_true, decide_eq_true_eq] at hc
      obtain ⟨hc1, hc2⟩ := hc
      have hv := hc2
      unfold Utf8.valid at hv
      simp only [Bool.or_eq_true, Bool.and_eq_true, decide_eq_true_eq] at hv
      refine ⟨by simp, by simp, by simp, by simp only; omega, by simp only; omega, fun _ => rfl, fun _ => ?_⟩
      rw [enc_of (by simp only; omega), if_neg (by simp only; omega), if_neg (by simp only; omega), if_neg (by simp only; omega)]
      simp only [str, List.take_succ_cons, List.take_zero]
      rw [u8_eq (b := b0) (by omega), u8_eq (b := b1) (by omega), u8_eq (b := b2) (by omega), u8_eq (b := b3) (by omega)]
    · rw [if_neg (by simpa using hc)]; exact herr
  rw [if_neg h4]; exact herr
def runesF : Nat → List UInt8 → List Nat
  | 0, _ => []
  | f + 1, l => if l = [] then [] else (rune1 l).1 :: runesF f (l.drop (rune1 l).2)
def runes (l : List UInt8) : List Nat := runesF l.length l
theorem runesF_more : ∀ (f g : Nat) (l : List UInt8), l.length ≤ f → l.length ≤ g → runesF f l = runesF g l
  | 0, g, l, hf, hg => by
    have : l = [] := List.eq_nil_of_length_eq_zero (by omega)
    subst this
    cases g <;> simp [runesF]
  | f + 1, 0, l, hf, hg => by
    have : l = [] := List.eq_nil_of_length_eq_zero (by omega)
    subst this
    simp [runesF]
  | f + 1, g + 1, l, hf, hg => by
    simp only [runesF]
    split
    · rfl
    · rename_i h
      have h1 := rune1_ok h
      have h2 : (l.drop (rune1 l).2).length < l.length := by rw [List.length_drop]; have := h1.1; have := h1.2.1; omega
      rw [runesF_more f g (l.drop (rune1 l).2) (by omega) (by omega)]
theorem runes_nil : runes [] = [] := rfl
theorem runes_cons {l : List UInt8} (h : l ≠ []) : runes l = (rune1 l).1 :: runes (l.drop (rune1 l).2) := by
  have h1 := rune1_ok h
  have h2 : (l.drop (rune1 l).2).length < l.length := by rw [List.length_drop]; have := h1.1; have := h1.2.1; omega
  unfold runes
  cases hl : l.length with
  | zero => omega
  | succ f =>
    rw [runesF, if_neg h, runesF_more f (l.drop (rune1 l).2).length _ (by omega) (Nat.le_refl _)]
theorem runes_at {bs : List UInt8} {pos : Nat} (h : pos < bs.length) : runes (bs.drop pos) = (rune1 (bs.drop pos)).1 :: runes (bs.drop (pos + (rune1 (bs.drop pos)).2)) := by
  rw [runes_cons (by intro e; have := congrArg List.length e; simp at this; omega), List.drop_drop]
theorem rune_at {bs : List UInt8} {pos : Nat} (h : pos < bs.length) : rOk (bs.drop pos) (rune1 (bs.drop pos)) :=
  rune1_ok (by intro e; have := congrArg List.length e; simp at this; omega)
def u16 (c : Nat) : List Int := if 65536 ≤ c then [55296 + ((c - 65536) / 1024 : Nat), 56320 + ((c - 65536) % 1024 : Nat)] else [(c : Int)]
def utf16 (bs : List UInt8) : List Int := (runes bs).flatMap u16
theorem utf16_nil : utf16 [] = [] := rfl
theorem utf16_at {bs : List UInt8} {pos : Nat} (h : pos < bs.length) : utf16 (bs.drop pos) = u16 (rune1 (bs.drop pos)).1 ++ utf16 (bs.drop (pos + (rune1 (bs.drop pos)).2)) := by
  unfold utf16; rw [runes_at h]; simp
theorem and1023 {x : Int} (h : 0 ≤ x ∧ x ≤ 2147483647) : bits .and .i32 x 1023 = x % 1024 := by
  obtain ⟨k, rfl⟩ := Int.eq_ofNat_of_zero_le h.1
  have e : bits .and .i32 (k : Int) 1023 = IntKind.i32.wrap ((BitVec.ofInt 32 (k : Int) &&& BitVec.ofInt 32 1023).toInt) ∨ bits .and .i32 (k : Int) 1023 = IntKind.i32.wrap ((BitVec.ofInt 32 (k : Int) &&& BitVec.ofInt 32 1023).toNat : Int) := by
    first | exact .inl rfl | exact .inr rfl
  have hx' : (BitVec.ofInt 32 (k : Int)).toNat = k := by rw [BitVec.toNat_ofInt]; omega
  have hn : (BitVec.ofInt 32 (k : Int) &&& BitVec.ofInt 32 1023).toNat = k % 1024 := by
    rw [BitVec.toNat_and, hx', show (BitVec.ofInt 32 1023).toNat = 2 ^ 10 - 1 from rfl, Nat.and_two_pow_sub_one_eq_mod]
  rcases e with e | e
  · rw [e, BitVec.toInt_eq_toNat_of_lt (by rw [hn]; omega), hn, w_i32 (by omega)]; omega
  · rw [e, hn, w_i32 (by omega)]; omega
def nextL (bs : List UInt8) (pos : Nat) : List Value := if pos < bs.length then [.bool true, .int .i64 (pos : Int), .int .i32 ((rune1 (bs.drop pos)).1 : Int)] else [.bool false]
def nextP (bs : List UInt8) (pos : Nat) : Nat := if pos < bs.length then pos + (rune1 (bs.drop pos)).2 else pos
theorem next0 (bs : List UInt8) (pos : Nat) : (nextL bs pos)[0]? = some (.bool (decide (pos < bs.length))) := by
  unfold nextL; split <;> simp_all
theorem next2 {bs : List UInt8} {pos : Nat} (h : pos < bs.length) : (nextL bs pos)[2]? = some (.int .i32 ((rune1 (bs.drop pos)).1 : Int)) := by
  unfold nextL; rw [if_pos h]; rfl
theorem nextP_of {bs : List UInt8} {pos : Nat} (h : pos < bs.length) : nextP bs pos = pos + (rune1 (bs.drop pos)).2 := by unfold nextP; rw [if_pos h]
theorem nextP_end {bs : List UInt8} {pos : Nat} (h : ¬ pos < bs.length) : nextP bs pos = pos := by unfold nextP; rw [if_neg h]
section steps
variable {P : Program} {n : Nat} {ops : Array Oper} {Q : Post} {rest : List Oper} {ρ : Env} {w : World} {ty : TypeId} {pos : String} {af : Array Edge} {d : Nat}
variable {w0 : World} {S : List Nat} {L L' : List Ent}
theorem rngS {t : TypeId} {x : Operand} {bs : List UInt8} (H : SH w0 S w L) (hx : ev ρ x = .string (str bs)) (hu : P.underlying t = some .string) (hn : Nat.blt d n = true)
    (kk : ∀ b w', w.heap.size ≤ b → SH w0 S w' (⟨b, .stringIter (str bs) 0, true⟩ :: L) → Fr [] w w' → wl P n ops Q rest (upd ρ d (.pointer (some ⟨b, 0, none⟩))) w') : wl P n ops Q (⟨some d, .range t x, ty, pos, af, none⟩ :: rest) ρ w := by
  refine val rfl rfl hn (w' := w.alloc (.stringIter (str bs) 0)) (v := .pointer (some ⟨w.heap.size, 0, none⟩)) ?_ (kk _ _ (Nat.le_refl _) (H.new (Fr.alloc _ _) (Nat.le_refl _) (heap_alloc_new _ _)) (Fr.alloc _ _))
  simp [execOp, hx, Instr.range, run_underlying hu]
theorem nxt {x : Operand} {b i : Nat} {bs : List UInt8} (H : SH w0 S w L) (hx : ev ρ x = .pointer (some ⟨b, 0, none⟩)) [lk : Look L b (.stringIter (str bs) i)] [tn : Turn L b (.stringIter (str bs) (nextP bs i)) L'] (hn : Nat.blt d n = true)
    (kk : ∀ w', SH w0 S w' L' → Fr [b] w w' → wl P n ops Q rest (upd ρ d (.tuple (nextL bs i).toArray)) w') : wl P n ops Q (⟨some d, .next x true, ty, pos, af, none⟩ :: rest) ρ w := by
  have hL := H.look (b := b) (o := .stringIter (str bs) i)
  have hlt := lt_of_at hL
  by_cases hi : i < bs.length
  · have hfr : Fr [b] w { w with heap := w.heap.setIfInBounds b (.stringIter (str bs) (nextP bs i)) } := ⟨rfl, rfl, rfl, by simp, fun k _ hk => by
      have : b ≠ k := fun e => hk (by simp [e])
      simp [this]⟩
    refine val rfl rfl hn (w' := { w with heap := w.heap.setIfInBounds b (.stringIter (str bs) (nextP bs i)) }) (v := .tuple (nextL bs i).toArray) ?_ (kk _ (H.put (b := b) (o' := .stringIter (str bs) (nextP bs i)) hfr (by simp [hlt])) hfr)
    unfold nextL
    rw [if_pos hi, nextP_of hi]
    have hd := decode_drop bs i
    simp [execOp, hx, Instr.next, getObj, setObj, Sem.run, hL, hi, hd, rune1, goInt, Result.andThen]
  · have e : nextP bs i = i := nextP_end hi
    refine val rfl rfl hn (w' := w) (v := .tuple (nextL bs i).toArray) ?_ (kk w (H.put (b := b) (o' := .stringIter (str bs) (nextP bs i)) (Fr.refl _ _) (by rw [e]; exact hL)) (Fr.refl _ _))
    unfold nextL
    rw [if_neg hi]
    simp [execOp, hx, Instr.next, getObj, Sem.run, hL, hi, Result.andThen]
end steps
end Go.Proofs.YthcaejaaalkglaaDoor.X
/- What a value that was laid looks like: its cells, by its type's shape. -/
namespace Go.Proofs.YthcaejaaalkglaaDoor.X
open Go
set_option linter.unusedVariables false
mutual
inductive Shp where
 | int (k : IntKind)
 | bool
 | str
 | row (sz : Nat) (s : Shp)
 | ptr (sz : Nat) (s : Shp)
 | agg (tot : Nat) (ps : Prts)
 | any
inductive Prts where
 | nil
 | cons (o n : Nat) (s : Shp) (r : Prts)
end
def mkPrts : List (Nat × Nat × Shp) → Prts
 | [] => .nil
 | p :: r => .cons p.1 p.2.1 p.2.2 (mkPrts r)
def shpOf (P : Program) : Nat → TypeId → Shp
 | 0, _ => .any
 | d + 1, t => match P.underlying t with
  | some .bool => .bool
  | some (.int k) => .int k
  | some .string => .str
  | some (.slice e) => .row (P.cellsOf e) (shpOf P d e)
  | some (.pointer e) => .ptr (P.cellsOf e) (shpOf P d e)
  | some (.struct fs) => .agg (P.cellsOf t) (mkPrts (fs.toList.map fun f => (f.offset, P.cellsOf f.type, shpOf P d f.type)))
  | some (.array n e) => .agg (P.cellsOf t) (mkPrts ((List.range n).map fun i => (i * P.cellsOf e, P.cellsOf e, shpOf P d e)))
  | _ => .any
def At (w : World) (a : Addr) (cs : List Value) : Prop := ∀ j v, cs[j]? = some v → w.cell? (a.add j) = some v
mutual
def Is (w : World) : Shp → List Value → Prop
 | .int k, cs => ∃ n, cs = [.int k n] ∧ (Lit.int k n).wf = true
 | .bool, cs => ∃ b, cs = [.bool b]
 | .str, cs => ∃ s, cs = [.string s] ∧ s.size ≤ maxLen
 | .row sz s, cs => cs = [.slice none 0 0] ∨ ∃ a len cap, cs = [.slice (some a) len cap] ∧ len ≤ cap ∧ cap ≤ maxLen ∧ ∀ i, i < cap → ∃ es, es.length = sz ∧ At w (a.add (i * sz)) es ∧ Is w s es
 | .ptr sz s, cs => cs = [.pointer none] ∨ ∃ a es, cs = [.pointer (some a)] ∧ es.length = sz ∧ At w a es ∧ Is w s es
 | .agg tot ps, cs => cs.length = tot ∧ IsAll w ps cs
 | .any, _ => True
def IsAll (w : World) : Prts → List Value → Prop
 | .nil, _ => True
 | .cons o n s r, cs => Is w s ((cs.drop o).take n) ∧ IsAll w r cs
end
theorem IsAll_mk {w : World} {cs : List Value} : ∀ (l : List (Nat × Nat × Shp)), (∀ p ∈ l, Is w p.2.2 ((cs.drop p.1).take p.2.1)) → IsAll w (mkPrts l) cs
 | [], _ => by simp [mkPrts, IsAll]
 | p :: r, h => by
  simp only [mkPrts, IsAll]
  exact ⟨h p (.head _), IsAll_mk r fun q hq => h q (.tail _ hq)⟩
theorem mapM_len {α β : Type} {f : α → Option β} : ∀ {l : List α} {r : List β}, l.mapM f = some r → r.length = l.length
 | [], r, h => by simp at h; simp [h]
 | x :: l, r, h => by
  simp only [List.mapM_cons, Option.bind_eq_bind, Option.pure_def] at h
  cases hx : f x with
  | none => simp [hx] at h
  | some y =>
   cases hl : l.mapM f with
   | none => simp [hx, hl] at h
   | some r' =>
    simp [hx, hl] at h
    subst h
    simp [mapM_len hl]
theorem cells?_at {w : World} {b : Nat} {a : Addr} {n : Nat} {cs : List Value} (h : w.cells? b a n = some cs) : cs.length = n ∧ At w a cs := by
 unfold World.cells? at h
 split at h
 ·refine ⟨by rw [mapM_len h]; simp, fun j v hj => ?_⟩
  have hl := mapM_len h
  have hjl : j < n := by
   have := (List.getElem?_eq_some_iff.1 hj).1
   simp at hl; omega
  obtain ⟨q, h1, h2⟩ := mapM_get h j j (by simp [hjl])
  rw [h2] at hj
  obtain rfl := Option.some.inj hj
  exact h1
 ·cases h
theorem of_trod {H : Type} {enc : TypeId × Value → H} {P : Program} {w : World} {base : Nat} {held : Bool} : ∀ (d : Nat) (t : TypeId) (fuel : Nat) (cs : List Value) (x : DataW H × List MemPlace), DataW.trod enc P w base (fun _ => true) held fuel t cs = some x → Is w (shpOf P d t) cs := by
 intro d
 induction d with
 | zero => intro t fuel cs x h; simp [shpOf, Is]
 | succ d ih =>
  intro t fuel cs x h
  unfold shpOf
  cases hu : P.underlying t with
  | none => simp [Is]
  | some u =>
   cases u <;> simp only [] <;> try (simp only [Is]; done)
   case bool =>
    obtain ⟨b, rfl, _⟩ := DataW.trod_bool hu h
    exact (by simp [Is])
   case int k =>
    obtain ⟨n, rfl, _, hw⟩ := DataW.trod_int hu h
    simp only [Is]
    exact ⟨n, rfl, hw⟩
   case string =>
    obtain ⟨s, rfl, _, hs⟩ := DataW.trod_string hu h
    simp only [Is]
    exact ⟨s, rfl, hs⟩
   case pointer e =>
    simp only [Is]
    rcases DataW.trod_pointer hu h with ⟨rfl, _⟩ | ⟨a, es, y, n, _, rfl, _, hc, ht⟩
    ·exact .inl rfl
    ·exact .inr ⟨a, es, rfl, (cells?_at hc).1, (cells?_at hc).2, ih _ _ _ _ ht⟩
   case slice e =>
    simp only [Is]
    rcases DataW.trod_slice hu h with ⟨rfl, _⟩ | ⟨a, len, cap, elems, rest, n, _, rfl, _, hb, hl, hc, hel, h1, h2, _⟩
    ·exact .inl rfl
    ·refine .inr ⟨a, len, cap, rfl, hl, hc, fun i hi => ?_⟩
     obtain ⟨hr, h2⟩ := h2 rfl
     have : ∃ y, (w.cells? base (a.add (i * P.cellsOf e)) (P.cellsOf e)).bind (DataW.trod enc P w base (fun _ => true) held n e) = some y := by
      by_cases hil : i < len
      ·exact ⟨_, (h1 i hil).trans (List.getElem?_eq_getElem (by omega))⟩
      ·have := h2 (i - len) (by omega)
       rw [show len + (i - len) = i by omega] at this
       exact ⟨_, this.trans (List.getElem?_eq_getElem (by omega))⟩
     obtain ⟨y, hy⟩ := this
     obtain ⟨es, hes, hy⟩ := Option.bind_eq_some_iff.1 hy
     exact ⟨es, (cells?_at hes).1, (cells?_at hes).2, ih _ _ _ _ hy⟩
   case struct fs =>
    obtain ⟨xs, n, _, _, hl, hxl, hf⟩ := DataW.trod_struct hu h
    simp only [Is]
    refine ⟨hl, IsAll_mk _ fun p hp => ?_⟩
    obtain ⟨f, hfm, rfl⟩ := List.mem_map.1 hp
    obtain ⟨i, hi, hif⟩ := List.getElem_of_mem hfm
    have hif' : fs[i]? = some f := by
     rw [← Array.getElem?_toList, List.getElem?_eq_getElem hi, hif]
    have := hf i f hif'
    have hi' : i < xs.length := by simpa [hxl] using hi
    rw [List.getElem?_eq_getElem hi'] at this
    exact ih _ _ _ _ this
   case array n e =>
    obtain ⟨xs, m, _, _, hl, hxl, hf⟩ := DataW.trod_array hu h
    simp only [Is]
    refine ⟨hl, IsAll_mk _ fun p hp => ?_⟩
    obtain ⟨i, hi, rfl⟩ := List.mem_map.1 hp
    have hi : i < n := by simpa using hi
    have := hf i hi
    rw [List.getElem?_eq_getElem (by omega)] at this
    exact ih _ _ _ _ this
theorem okWide_agg {P : Program} {w : World} {r : Reach} {base : Nat} {t : TypeId} {v : Value} (ht : (∃ fs, P.underlying t = some (.struct fs)) ∨ ∃ n e, P.underlying t = some (.array n e)) (h : Value.okWide P w r base t v) : ∃ cs : List Value, v = .agg cs.toArray := by
 unfold Value.okWide at h
 rcases ht with ⟨fs, ht⟩ | ⟨n, e, ht⟩ <;>
 ·rw [ht] at h
  obtain ⟨cs, rfl, _⟩ := h
  exact ⟨cs.toList, by simp⟩
theorem open_agg {H : Type} {enc : TypeId × Value → H} {P : Program} {w : World} {r : Reach} {base b0 : Nat} {held : Bool} {t : TypeId} {v : Value} {x : DataW H} {ps : List MemPlace} {s : Shp} (d : Nat) (hs : shpOf P d t = s) (ht : (∃ fs, P.underlying t = some (.struct fs)) ∨ ∃ n e, P.underlying t = some (.array n e)) (hv : Value.okWide P w r b0 t v) (h : DataW.Trod enc P w base (fun _ => true) held t v x ps) :
  ∃ cs : List Value, v = .agg cs.toArray ∧ Is w s cs := by
 obtain ⟨cs, rfl⟩ := okWide_agg ht hv
 obtain ⟨fuel, hf⟩ := h
 exact ⟨cs, rfl, hs ▸ of_trod d t fuel cs _ (by simpa [Value.cells] using hf)⟩
end Go.Proofs.YthcaejaaalkglaaDoor.X
/- Entries of a master boot record, as plain data. -/
namespace Go.Proofs.YthcaejaaalkglaaDoor.X
open Go
set_option linter.unusedVariables false
structure MP where
 ix : Int
 bt : Bool
 ty : Int
 st : Int
 sz : Int
 c0 : Int
 c1 : Int
 c2 : Int
 c3 : Int
 c4 : Int
 c5 : Int
def MP.cells (p : MP) : List Value := [.int .i64 p.ix, .bool p.bt, .int .u8 p.ty, .int .u32 p.st, .int .u32 p.sz, .int .u8 p.c0, .int .u8 p.c1, .int .u8 p.c2, .int .u8 p.c3, .int .u8 p.c4, .int .u8 p.c5]
structure MP.ok (p : MP) : Prop where
 ix : -9223372036854775808 ≤ p.ix ∧ p.ix ≤ 9223372036854775807
 ty : 0 ≤ p.ty ∧ p.ty ≤ 255
 st : 0 ≤ p.st ∧ p.st ≤ 4294967295
 sz : 0 ≤ p.sz ∧ p.sz ≤ 4294967295
 c0 : 0 ≤ p.c0 ∧ p.c0 ≤ 255
 c1 : 0 ≤ p.c1 ∧ p.c1 ≤ 255
 c2 : 0 ≤ p.c2 ∧ p.c2 ≤ 255
 c3 : 0 ≤ p.c3 ∧ p.c3 ≤ 255
 c4 : 0 ≤ p.c4 ∧ p.c4 ≤ 255
 c5 : 0 ≤ p.c5 ∧ p.c5 ≤ 255
def MP.zero : MP := ⟨0, false, 0, 0, 0, 0, 0, 0, 0, 0, 0⟩
theorem MP.zero_ok : MP.zero.ok := by constructor <;> decide
def MP.head (p : MP) : List UInt8 := [b8 (if p.bt then 128 else 0), b8 p.c1, b8 p.c2, b8 p.c0, b8 p.ty, b8 p.c4, b8 p.c5, b8 p.c3]
def MP.bytes (p : MP) : List UInt8 := p.head ++ leB 4 p.st ++ leB 4 p.sz
theorem MP.bytes_len (p : MP) : p.bytes.length = 16 := by simp [MP.bytes, MP.head, leB_len]
theorem flat_len {α β : Type} {f : α → List β} {k : Nat} (h : ∀ x, (f x).length = k) : ∀ l : List α, (l.flatMap f).length = l.length * k
 | [] => by simp
 | x :: l => by simp [List.flatMap_cons, h x, flat_len h l, Nat.add_mul]; omega
theorem flat_get {α β : Type} {f : α → List β} {k : Nat} (h : ∀ x, (f x).length = k) : ∀ (l : List α) (i : Nat) (x : α), l[i]? = some x → ((l.flatMap f).drop (i * k)).take k = f x
 | [], i, x, hx => by simp at hx
 | y :: l, 0, x, hx => by
  simp at hx; subst hx
  simp only [List.flatMap_cons, Nat.zero_mul, List.drop_zero]
  rw [List.take_append_of_le_length (by rw [h]; exact Nat.le_refl _), List.take_of_length_le (by rw [h]; exact Nat.le_refl _)]
 | y :: l, i + 1, x, hx => by
  simp only [List.flatMap_cons]
  rw [List.drop_append, List.drop_of_length_le (by rw [h, Nat.add_mul]; omega), h, List.nil_append]
  rw [show (i + 1) * k - k = i * k by rw [Nat.add_mul]; omega]
  exact flat_get h l i x (by simpa using hx)
theorem take_succ_get {α : Type} {l : List α} {i : Nat} {x : α} (h : l[i]? = some x) : l.take (i + 1) = l.take i ++ [x] := by
 rw [List.take_add_one, h]; rfl
theorem MP.cells_len (p : MP) : p.cells.length = 11 := rfl
def mbrB (ds : List UInt8) (ps : List MP) : List UInt8 := pAt ds 446 (ps.flatMap MP.bytes ++ [85, 170])
theorem entry_put {X Y : List UInt8} {o a1 a2 a3 a4 a5 a6 a7 a8 a9 : Nat} {x0 x1 x2 x3 x4 x5 x6 x7 : UInt8} {l1 l2 : List UInt8} (h : o + 16 ≤ X.length) (hY : Y = X.set o x0) (h1 : a1 = o + 1) (h2 : a2 = o + 2) (h3 : a3 = o + 3) (h4 : a4 = o + 4) (h5 : a5 = o + 5) (h6 : a6 = o + 6) (h7 : a7 = o + 7) (h8 : a8 = o + 8) (h9 : a9 = o + 12) (hl1 : l1.length = 4) (hl2 : l2.length = 4) :
  pAt (pAt (((((((Y.set a1 x1).set a2 x2).set a3 x3).set a4 x4).set a5 x5).set a6 x6).set a7 x7) a8 l1) a9 l2 = pAt X o ([x0, x1, x2, x3, x4, x5, x6, x7] ++ l1 ++ l2) := by
 subst hY h1 h2 h3 h4 h5 h6 h7 h8 h9
 rw [set_first (cur := X) (by omega)]
 rw [show o + 1 = o + [x0].length from rfl, pAt_set (by simp; omega)]
 rw [show o + 2 = o + ([x0] ++ [x1]).length from rfl, pAt_set (by simp; omega)]
 rw [show o + 3 = o + ([x0] ++ [x1] ++ [x2]).length from rfl, pAt_set (by simp; omega)]
 rw [show o + 4 = o + ([x0] ++ [x1] ++ [x2] ++ [x3]).length from rfl, pAt_set (by simp; omega)]
 rw [show o + 5 = o + ([x0] ++ [x1] ++ [x2] ++ [x3] ++ [x4]).length from rfl, pAt_set (by simp; omega)]
 rw [show o + 6 = o + ([x0] ++ [x1] ++ [x2] ++ [x3] ++ [x4] ++ [x5]).length from rfl, pAt_set (by simp; omega)]
 rw [show o + 7 = o + ([x0] ++ [x1] ++ [x2] ++ [x3] ++ [x4] ++ [x5] ++ [x6]).length from rfl, pAt_set (by simp; omega)]
 simp only [List.cons_append, List.nil_append]
 rw [pAt_pAt (cur := X) (o := o) (p := o + 8) (by rfl) (by rw [hl1]; omega)]
 rw [pAt_pAt (cur := X) (o := o) (p := o + 12) (by simp [hl1]) (by rw [hl2]; omega)]
 simp
theorem entry_at {ds : List UInt8} {ps : List MP} {i : Nat} {p : MP} (hp : ps[i]? = some p) (h4 : i < 4) (hd : 512 ≤ ds.length) : pAt (pAt ds 446 ((ps.take i).flatMap MP.bytes)) (446 + 16 * i) p.bytes = pAt ds 446 ((ps.take (i + 1)).flatMap MP.bytes) := by
 have hl : ((ps.take i).flatMap MP.bytes).length = i * 16 := by
  rw [flat_len MP.bytes_len]; congr 1; have := (List.getElem?_eq_some_iff.1 hp).1; simp; omega
 rw [pAt_pAt (by rw [hl]; omega) (by rw [MP.bytes_len]; omega), take_succ_get hp]
 simp
theorem mp_ix {ps : List MP} {i : Nat} {p : MP} (hp : ps[i]? = some p) : ((ps.flatMap MP.cells).drop (((i : Nat) : Int).toNat * 11)).take 11 = p.cells := flat_get MP.cells_len ps i p hp
theorem mbr_end {ds : List UInt8} {ps : List MP} (h4 : ps.length = 4) (hd : 512 ≤ ds.length) {i : Nat} (hi : 4 ≤ i) : ((pAt ds 446 ((ps.take i).flatMap MP.bytes)).set 510 85).set 511 170 = mbrB ds ps := by
 rw [List.take_of_length_le (by omega)]
 have hl : (ps.flatMap MP.bytes).length = 64 := by rw [flat_len MP.bytes_len, h4]
 unfold mbrB
 rw [show 510 = 446 + (ps.flatMap MP.bytes).length by omega, pAt_set (by omega)]
 rw [show 511 = 446 + (ps.flatMap MP.bytes ++ [85]).length by simp [hl], pAt_set (by simp [hl]; omega)]
 simp
def eqE (xs ys : List UInt8) (o p : Nat) : Bool :=
 decide (((xs.getD o 0).toNat : Int) = (ys.getD p 0).toNat ∧ ((xs.getD (o + 4) 0).toNat : Int) = (ys.getD (p + 4) 0).toNat ∧ (xs.drop (o + 8)).take 4 = (ys.drop (p + 8)).take 4 ∧ (xs.drop (o + 12)).take 4 = (ys.drop (p + 12)).take 4)
def eqM (p q : MP) : Bool := decide (p.bt = q.bt ∧ p.ty = q.ty ∧ p.st = q.st ∧ p.sz = q.sz)
def shpMP : Shp := .agg 11 (.cons 0 1 (.int .i64) (.cons 1 1 .bool (.cons 2 1 (.int .u8) (.cons 3 1 (.int .u32) (.cons 4 1 (.int .u32) (.cons 5 6 (.agg 6 (.cons 0 1 (.int .u8) (.cons 1 1 (.int .u8) (.cons 2 1 (.int .u8) (.cons 3 1 (.int .u8) (.cons 4 1 (.int .u8) (.cons 5 1 (.int .u8) .nil))))))) .nil))))))
end Go.Proofs.YthcaejaaalkglaaDoor.X
/- Tables of GUID partitions, as plain data: what is laid on a disk. -/
namespace Go.Proofs.YthcaejaaalkglaaDoor.X
open Go
set_option linter.unusedVariables false
structure GP where
 ix : Int
 st : Int
 en : Int
 sz : Int
 ty : List UInt8
 nm : List UInt8
 gu : List UInt8
 att : Int
def GP.cells (p : GP) : List Value := [.int .i64 p.ix, .int .u64 p.st, .int .u64 p.en, .int .u64 p.sz, .string (str p.ty), .string (str p.nm), .string (str p.gu), .int .u64 p.att]
structure GP.ok (p : GP) : Prop where
 ix : -9223372036854775808 ≤ p.ix ∧ p.ix ≤ 9223372036854775807
 st : 0 ≤ p.st ∧ p.st ≤ 18446744073709551615
 en : 0 ≤ p.en ∧ p.en ≤ 18446744073709551615
 sz : 0 ≤ p.sz ∧ p.sz ≤ 18446744073709551615
 att : 0 ≤ p.att ∧ p.att ≤ 18446744073709551615
theorem GP.cells_len (p : GP) : p.cells.length = 8 := rfl
theorem GP.cells_one (p : GP) : p.cells.all Value.oneCell' = true := rfl
structure GP.fit (p : GP) : Prop where
 ty : p.ty.length ≤ 2147483647
 nm : p.nm.length ≤ 2147483647
 gu : p.gu.length ≤ 2147483647
def gtCells (D : Option Addr) (m c : Nat) (sec : Int) (gu : List UInt8) (pr rc : Bool) : List Value := [.slice D m c, .int .i64 sec, .string (str gu), .bool pr, .bool rc]
def entN (s : List UInt8) : List UInt8 := (utf16 s).flatMap (leB 2)
def entH (p : GP) : List UInt8 := gB p.ty ++ gB p.gu ++ leB 8 p.st ++ leB 8 p.en ++ leB 8 p.att
def entB (p : GP) : List UInt8 := entH p ++ entN p.nm
theorem entH_len (p : GP) : (entH p).length = 56 := by simp [entH, gB_len, leB_len]
theorem entN_len (s : List UInt8) : (entN s).length = 2 * (utf16 s).length := by
 unfold entN
 rw [flat_len (leB_len 2)]; omega
theorem entB_len (p : GP) : (entB p).length = 56 + 2 * (utf16 p.nm).length := by rw [entB, List.length_append, entH_len, entN_len]
def GP.fits (p : GP) : Prop := 1 ≤ p.ix ∧ p.ix ≤ 128 ∧ (utf16 p.nm).length ≤ 36
def arrP (a : List UInt8) (p : GP) : List UInt8 := pAt a (128 * (p.ix - 1).toNat) (entB p)
def arrB (ps : List GP) : List UInt8 := ps.foldl arrP (List.replicate 16384 0)
theorem arrP_len {a : List UInt8} {p : GP} (ha : a.length = 16384) (h : p.fits) : (arrP a p).length = 16384 := by
 obtain ⟨h1, h2, h3⟩ := h
 unfold arrP
 rw [pAt_len (by rw [entB_len]; omega), ha]
theorem foldl_arr_len : ∀ (ps : List GP) (a : List UInt8), a.length = 16384 → (∀ p ∈ ps, p.fits) → (ps.foldl arrP a).length = 16384
 | [], a, ha, h => ha
 | p :: r, a, ha, h => foldl_arr_len r _ (arrP_len ha (h p (.head _))) fun q hq => h q (.tail _ hq)
theorem arrB_len {ps : List GP} (h : ∀ p ∈ ps, p.fits) : (arrB ps).length = 16384 := foldl_arr_len ps _ List.length_replicate h
def efiL : List UInt8 := [69, 70, 73, 32, 80, 65, 82, 84]
def hdrS (sum : Int) (atL other ent n : Int) (gu : List UInt8) (ca : Int) : List UInt8 :=
 efiL ++ leB 4 65536 ++ leB 4 92 ++ leB 4 sum ++ [0, 0, 0, 0] ++ leB 8 atL ++ leB 8 other ++ leB 8 34 ++ leB 8 (n - 34) ++ gu ++ leB 8 ent ++ leB 4 128 ++ leB 4 128 ++ leB 4 ca
def hdrB (atL other ent n : Int) (gu : List UInt8) (ca : Int) : List UInt8 := hdrS (crc32 (hdrS 0 atL other ent n gu ca)) atL other ent n gu ca ++ List.replicate 420 0
theorem hdrS_len {s a o e n c : Int} {gu : List UInt8} (h : gu.length = 16) : (hdrS s a o e n gu c).length = 92 := by
 simp only [hdrS, List.length_append, leB_len, h, efiL, List.length_cons, List.length_nil]
theorem hdrB_len {a o e n c : Int} {gu : List UInt8} (h : gu.length = 16) : (hdrB a o e n gu c).length = 512 := by
 unfold hdrB
 rw [List.length_append, hdrS_len h, List.length_replicate]
def protM (n : Nat) : List MP := [⟨0, false, 238, 1, (n : Int) - 1, 0, 0, 2, 255, 255, 255⟩, MP.zero, MP.zero, MP.zero]
def encB (ds : List UInt8) (n : Nat) (gu : List UInt8) (ps : List GP) : List UInt8 :=
 pAt (pAt (pAt (pAt (mbrB ds (protM n)) 512 (hdrB 1 ((n : Int) - 1) 2 n (gB gu) (crc32 (arrB ps)))) 1024 (arrB ps)) ((n - 33) * 512) (arrB ps)) ((n - 1) * 512) (hdrB ((n : Int) - 1) 1 ((n : Int) - 33) n (gB gu) (crc32 (arrB ps)))
theorem repl_split {a b : Nat} (h : a ≤ b) : List.replicate b (0 : UInt8) = List.replicate a 0 ++ List.replicate (b - a) 0 := by
 rw [List.replicate_append_replicate]; congr 1; omega
theorem pAt_gap {N o k : Nat} {es fs : List UInt8} (h : o + es.length + k + fs.length ≤ N) : pAt (pAt (List.replicate N 0) o es) (o + es.length + k) fs = pAt (List.replicate N 0) o (es ++ List.replicate k 0 ++ fs) := by
 have e : pAt (List.replicate N 0) o es = pAt (List.replicate N 0) o (es ++ List.replicate k 0) := by
  unfold pAt
  simp only [List.drop_replicate, List.length_append, List.length_replicate, List.append_assoc]
  rw [repl_split (a := k) (b := N - (o + es.length)) (by omega), show N - (o + es.length) - k = N - (o + (es.length + k)) by omega]
 rw [e, pAt_pAt (by rw [List.length_append, List.length_replicate]; omega) (by rw [List.length_replicate]; omega)]
def pz (es : List UInt8) : List UInt8 := pAt (List.replicate 512 0) 0 es
theorem pz_app {es fs : List UInt8} {p : Nat} (hp : es.length = p) (h : p + fs.length ≤ 512) : pAt (pz es) p fs = pz (es ++ fs) := by
 unfold pz
 exact pAt_pAt (by omega) (by rw [List.length_replicate]; exact h)
theorem pz_gap {es fs : List UInt8} {p : Nat} (k : Nat) (hp : es.length + k = p) (h : p + fs.length ≤ 512) : pAt (pz es) p fs = pz (es ++ List.replicate k 0 ++ fs) := by
 unfold pz
 have := pAt_gap (N := 512) (o := 0) (k := k) (es := es) (fs := fs) (by omega)
 rw [show 0 + es.length + k = p by omega] at this
 exact this
theorem pz_eq {es : List UInt8} (h : es.length ≤ 512) : pz es = es ++ List.replicate (512 - es.length) 0 := by
 unfold pz pAt
 rw [List.drop_replicate, List.take_zero, List.nil_append, Nat.zero_add]
theorem hdr_put {a o e n c : Int} {gu : List UInt8} (h : gu.length = 16) :
  pAt (pAt (pAt (pAt (pAt (pAt (pAt (pAt (pAt (pAt (pAt (pAt (List.replicate 512 0) 0 efiL) 8 (leB 4 65536)) 12 (leB 4 92)) 24 (leB 8 a)) 32 (leB 8 o)) 40 (leB 8 34)) 48 (leB 8 (n - 34))) 56 gu) 72 (leB 8 e)) 80 (leB 4 128)) 84 (leB 4 128)) 88 (leB 4 c) = hdrS 0 a o e n gu c ++ List.replicate 420 0 := by
 have e0 : pAt (List.replicate 512 0) 0 efiL = pz efiL := rfl
 have le : efiL.length = 8 := rfl
 rw [e0]
 rw [pz_app (p := 8) rfl (by rw [leB_len]; decide)]
 rw [pz_app (p := 12) (by simp only [List.length_append, leB_len, le]) (by rw [leB_len]; decide)]
 rw [pz_gap 8 (p := 24) (by simp only [List.length_append, leB_len, le]) (by rw [leB_len]; decide)]
 rw [pz_app (p := 32) (by simp only [List.length_append, leB_len, le, List.length_replicate]) (by rw [leB_len]; decide)]
 rw [pz_app (p := 40) (by simp only [List.length_append, leB_len, le, List.length_replicate]) (by rw [leB_len]; decide)]
 rw [pz_app (p := 48) (by simp only [List.length_append, leB_len, le, List.length_replicate]) (by rw [leB_len]; decide)]
 rw [pz_app (p := 56) (by simp only [List.length_append, leB_len, le, List.length_replicate]) (by rw [h]; decide)]
 rw [pz_app (p := 72) (by simp only [List.length_append, leB_len, le, List.length_replicate, h]) (by rw [leB_len]; decide)]
 rw [pz_app (p := 80) (by simp only [List.length_append, leB_len, le, List.length_replicate, h]) (by rw [leB_len]; decide)]
 rw [pz_app (p := 84) (by simp only [List.length_append, leB_len, le, List.length_replicate, h]) (by rw [leB_len]; decide)]
 rw [pz_app (p := 88) (by simp only [List.length_append, leB_len, le, List.length_replicate, h]) (by rw [leB_len]; decide)]
 have e8 : List.replicate 8 (0 : UInt8) = leB 4 0 ++ [0, 0, 0, 0] := rfl
 have e1 : efiL ++ leB 4 65536 ++ leB 4 92 ++ List.replicate 8 0 ++ leB 8 a ++ leB 8 o ++ leB 8 34 ++ leB 8 (n - 34) ++ gu ++ leB 8 e ++ leB 4 128 ++ leB 4 128 ++ leB 4 c = hdrS 0 a o e n gu c := by
  rw [e8]; unfold hdrS; simp only [List.append_assoc]
 rw [e1, pz_eq (by rw [hdrS_len h]; decide), hdrS_len h]
theorem hdr_sum {s a o e n c : Int} {gu : List UInt8} (h : gu.length = 16) (r : List UInt8) : pAt (hdrS 0 a o e n gu c ++ r) 16 (leB 4 s) = hdrS s a o e n gu c ++ r := by
 have e1 : (efiL ++ leB 4 65536 ++ leB 4 92).length = 16 := by simp only [List.length_append, leB_len]; rfl
 have e2 : ∀ t : Int, hdrS t a o e n gu c ++ r = (efiL ++ leB 4 65536 ++ leB 4 92) ++ (leB 4 t ++ ([0, 0, 0, 0] ++ leB 8 a ++ leB 8 o ++ leB 8 34 ++ leB 8 (n - 34) ++ gu ++ leB 8 e ++ leB 4 128 ++ leB 4 128 ++ leB 4 c ++ r)) := fun t => by
  unfold hdrS; simp only [List.append_assoc]
 rw [e2, e2]
 generalize efiL ++ leB 4 65536 ++ leB 4 92 = x at e1
 generalize [0, 0, 0, 0] ++ leB 8 a ++ leB 8 o ++ leB 8 34 ++ leB 8 (n - 34) ++ gu ++ leB 8 e ++ leB 4 128 ++ leB 4 128 ++ leB 4 c ++ r = y
 unfold pAt
 rw [List.take_append_of_le_length (by omega), List.take_of_length_le (by omega), leB_len, List.drop_append, e1, List.drop_of_length_le (by omega), List.nil_append, List.drop_append, leB_len, List.drop_of_length_le (by rw [leB_len]; decide), List.nil_append, List.append_assoc]
 rfl
theorem ent_head {cur : List UInt8} {o : Nat} {p : GP} (h : o + 128 ≤ cur.length) : pAt (pAt (pAt (pAt (pAt cur o (gB p.ty)) (o + 16) (gB p.gu)) (o + 32) (leB 8 p.st)) (o + 40) (leB 8 p.en)) (o + 48) (leB 8 p.att) = pAt cur o (entH p) := by
 rw [pAt_pAt (cur := cur) (o := o) (by rw [gB_len]) (by rw [gB_len]; omega)]
 rw [pAt_pAt (cur := cur) (o := o) (by simp only [List.length_append, gB_len]) (by rw [leB_len]; omega)]
 rw [pAt_pAt (cur := cur) (o := o) (by simp only [List.length_append, gB_len, leB_len]) (by rw [leB_len]; omega)]
 rw [pAt_pAt (cur := cur) (o := o) (by simp only [List.length_append, gB_len, leB_len]) (by rw [leB_len]; omega)]
 rfl
theorem ent_unit {cur : List UInt8} {o i : Nat} {p : GP} {u : Int} (h : o + 128 ≤ cur.length) (h36 : (utf16 p.nm).length ≤ 36) (hu : (utf16 p.nm)[i]? = some u) : pAt (pAt cur o (entH p ++ ((utf16 p.nm).take i).flatMap (leB 2))) (o + (56 + 2 * i)) (leB 2 u) = pAt cur o (entH p ++ ((utf16 p.nm).take (i + 1)).flatMap (leB 2)) := by
 have hi := (List.getElem?_eq_some_iff.1 hu).1
 have hl : (((utf16 p.nm).take i).flatMap (leB 2)).length = i * 2 := by rw [flat_len (leB_len 2)]; congr 1; simp; omega
 rw [pAt_pAt (by rw [List.length_append, entH_len, hl]; omega) (by rw [leB_len]; omega), take_succ_get hu]
 simp only [List.flatMap_append, List.flatMap_singleton, List.append_assoc]
theorem u16_rng {c : Nat} (h : c ≤ 1114111) : ∀ u ∈ u16 c, 0 ≤ u ∧ u ≤ 65535 := by
 intro u hu
 unfold u16 at hu
 split at hu
 ·simp at hu; omega
 ·simp at hu; omega
theorem utf16_rng : ∀ (n : Nat) (bs : List UInt8), bs.length ≤ n → ∀ u ∈ utf16 bs, 0 ≤ u ∧ u ≤ 65535
 | 0, bs, h, u, hu => by
  have : bs = [] := List.eq_nil_of_length_eq_zero (by omega)
  subst this; simp [utf16_nil] at hu
 | n + 1, bs, h, u, hu => by
  by_cases hb : bs = []
  ·subst hb; simp [utf16_nil] at hu
  ·have h1 := rune1_ok hb
   have hl : 0 < bs.length := List.length_pos_iff.2 hb
   have e := utf16_at (bs := bs) (pos := 0) hl
   rw [List.drop_zero, Nat.zero_add] at e
   rw [e] at hu
   obtain ⟨g1, g2, g3, g4, _⟩ := h1
   rcases List.mem_append.1 hu with hu | hu
   ·exact u16_rng g4 u hu
   ·exact utf16_rng n _ (by rw [List.length_drop]; omega) u hu
theorem hdr_take {s a o e n c : Int} {gu r : List UInt8} (h : gu.length = 16) : ((hdrS s a o e n gu c ++ r).drop 0).take 92 = hdrS s a o e n gu c := by
 rw [List.drop_zero, List.take_append_of_le_length (by rw [hdrS_len h]; decide), List.take_of_length_le (by rw [hdrS_len h]; decide)]
theorem sh_bytes1 {w0 w : World} {S : List Nat} {b : Nat} {x : Ent} {T : TypeId} {L : List Ent} {cur cur' : List UInt8} {m : Bool} {fr : Nat × Nat} (H : SH w0 S w (x :: ⟨b, .cells (Bs cur).toArray T fr, m⟩ :: L)) (e : cur = cur') : SH w0 S w (x :: ⟨b, .cells (Bs cur').toArray T fr, m⟩ :: L) := e ▸ H
end Go.Proofs.YthcaejaaalkglaaDoor.X
/- Symbolic heaps put together: what a call has made, and what was there. -/
namespace Go.Proofs.YthcaejaaalkglaaDoor.X
set_option linter.unusedVariables false
open Go Go.RowKit
theorem SH.perm {w0 w : World} {S : List Nat} {L L' : List Ent} (H : SH w0 S w L) (h : L.Perm L') : SH w0 S w L' :=
 ⟨H.fr, fun x hx => H.get x (h.mem_iff.2 hx), h.pairwise H.ap (fun {x y} hxy hm => (hxy (by rw [Bool.or_comm]; exact hm)).symm), fun x hx => H.mu x (h.mem_iff.2 hx)⟩
theorem SH.join {w0 w w' : World} {S : List Nat} {L N : List Ent} (H : SH w0 S w L) (K : SH w [] w' N) (hm : ∀ x ∈ N, x.m = true) : SH w0 S w' (N ++ L) := by
 have H' := H.keep K.fr
 refine ⟨H'.fr, ?_, ?_, ?_⟩
 ·intro x hx
  rcases List.mem_append.1 hx with hx | hx
  ·exact K.get x hx
  ·exact H'.get x hx
 ·rw [List.pairwise_append]
  refine ⟨K.ap, H'.ap, fun x hx y hy _ => ?_⟩
  have h1 := (K.mu x hx (hm x hx)).resolve_left (by simp)
  have h2 := lt_of_at (H.get y hy)
  omega
 ·intro x hx hxm
  rcases List.mem_append.1 hx with hx | hx
  ·have h1 := (K.mu x hx (hm x hx)).resolve_left (by simp)
   exact .inr (Nat.le_trans H.size h1)
  ·exact H'.mu x hx hxm
theorem SH.back {w w1 w' : World} {N : List Ent} (F : Fr [] w w1) (K : SH w1 [] w' N) : SH w [] w' N :=
 ⟨F.trans K.fr, K.get, K.ap, fun x hx hm => .inr (Nat.le_trans F.size ((K.mu x hx hm).resolve_left (by simp)))⟩
end Go.Proofs.YthcaejaaalkglaaDoor.X
/- Rows of pointers, each to a block of its own. -/
namespace Go.Proofs.YthcaejaaalkglaaDoor.X
set_option linter.unusedVariables false
open Go Go.RowKit
abbrev PL := List (Nat × List Value)
def ents (T : TypeId) (l : PL) : List Ent := l.map fun x => ⟨x.1, .cells x.2.toArray T (0, 0), true⟩
def ptrs (l : PL) : List Value := l.map fun x => .pointer (some ⟨x.1, 0, none⟩)
theorem ptrs_len (l : PL) : (ptrs l).length = l.length := by simp [ptrs]
theorem ptrs_get {l : PL} {i : Nat} {x : Nat × List Value} (h : l[i]? = some x) : (ptrs l)[i]? = some (.pointer (some ⟨x.1, 0, none⟩)) := by simp [ptrs, h]
theorem ptrs_snoc (l : PL) (x : Nat × List Value) : ptrs (l ++ [x]) = ptrs l ++ [.pointer (some ⟨x.1, 0, none⟩)] := by simp [ptrs]
theorem ents_snoc (T : TypeId) (l : PL) (x : Nat × List Value) : ents T (l ++ [x]) = ents T l ++ [⟨x.1, .cells x.2.toArray T (0, 0), true⟩] := by simp [ents]
theorem ents_m {T : TypeId} {l : PL} : ∀ x ∈ ents T l, x.m = true := by
 intro u hu
 obtain ⟨x, _, rfl⟩ := List.mem_map.1 hu
 rfl
theorem ents_mem {T : TypeId} {l : PL} {i : Nat} {x : Nat × List Value} (h : l[i]? = some x) : (⟨x.1, .cells x.2.toArray T (0, 0), true⟩ : Ent) ∈ ents T l :=
 List.mem_map.2 ⟨x, List.mem_of_getElem? h, rfl⟩
theorem SH.ptr {w0 w : World} {S : List Nat} {L : List Ent} {T : TypeId} {l : PL} (H : SH w0 S w L) (hs : ∀ e ∈ ents T l, e ∈ L) {i : Nat} {x : Nat × List Value} (h : l[i]? = some x) : w.heap[x.1]? = some (.cells x.2.toArray T (0, 0)) :=
 H.get _ (hs _ (ents_mem h))
theorem OR.perm {e : TypeId} {sz : Nat} {w0 : World} {S : List Nat} {w : World} {L L' : List Ent} {A : Option Addr} {n cap : Nat} {xs : List Value} (O : OR e sz w0 S w L A n cap xs) (h : L.Perm L') : OR e sz w0 S w L' A n cap xs :=
 ⟨O.len, O.sh.perm h, O.own.imp id fun ⟨b, cur, h1, h2, h3, h4, h5, h6⟩ => ⟨b, cur, h1, h2, h3, h4, h5, h6.perm (List.Perm.cons _ h)⟩⟩
theorem OR.sub {e : TypeId} {sz : Nat} {w0 : World} {S : List Nat} {w : World} {L L' : List Ent} {A : Option Addr} {n cap : Nat} {xs : List Value} (O : OR e sz w0 S w L A n cap xs) (h : List.Sublist L' L) : OR e sz w0 S w L' A n cap xs :=
 ⟨O.len, O.sh.sub h, O.own.imp id fun ⟨b, cur, h1, h2, h3, h4, h5, h6⟩ => ⟨b, cur, h1, h2, h3, h4, h5, h6.sub (h.cons_cons _)⟩⟩
theorem OR.drew {e : TypeId} {sz : Nat} {w0 : World} {S : List Nat} {w : World} {L : List Ent} {A : Option Addr} {n cap : Nat} {xs : List Value} (O : OR e sz w0 S w L A n cap xs) : OR e sz w0 S w.drew L A n cap xs := O.keep (Fr.drew _ _)
theorem perm_snoc {T : TypeId} {l : PL} {x : Nat × List Value} (L : List Ent) : ((⟨x.1, .cells x.2.toArray T (0, 0), true⟩ : Ent) :: (L ++ ents T l)).Perm (L ++ ents T (l ++ [x])) := by
 rw [ents_snoc, ← List.append_assoc]
 exact (List.perm_append_comm (l₁ := [(⟨x.1, .cells x.2.toArray T (0, 0), true⟩ : Ent)]) (l₂ := L ++ ents T l))
theorem sh_cells1 {w0 w : World} {S : List Nat} {b c : Nat} {T T' : TypeId} {L : List Ent} {cs cs' ds : List Value} {m m' : Bool} {fr fr' : Nat × Nat} (H : SH w0 S w (⟨c, .cells ds.toArray T' fr', m'⟩ :: ⟨b, .cells cs.toArray T fr, m⟩ :: L)) (e : cs = cs') : SH w0 S w (⟨c, .cells ds.toArray T' fr', m'⟩ :: ⟨b, .cells cs'.toArray T fr, m⟩ :: L) := e ▸ H
theorem Bs_one {bs : List UInt8} : ∀ u ∈ Bs bs, u.oneCell' = true := by
 intro u hu
 obtain ⟨b, _, rfl⟩ := List.mem_map.1 hu
 rfl
theorem Bs_app (xs ys : List UInt8) : Bs xs ++ Bs ys = Bs (xs ++ ys) := by simp [Bs]
theorem OR.join {e : TypeId} {sz : Nat} {w0 w w' : World} {S : List Nat} {L : List Ent} {A : Option Addr} {n cap : Nat} {xs : List Value} (O : OR e sz w [] w' [] A n cap xs) (H : SH w0 S w L) : OR e sz w0 S w' L A n cap xs :=
 ⟨O.len, H.keep O.sh.fr, O.own.imp id fun ⟨b, cur, h1, h2, h3, h4, h5, h6⟩ => ⟨b, cur, h1, h2, h3, h4, h5, H.join h6 (by simp)⟩⟩
theorem OR.back {e : TypeId} {sz : Nat} {w w1 w' : World} {A : Option Addr} {n cap : Nat} {xs : List Value} (F : Fr [] w w1) (O : OR e sz w1 [] w' [] A n cap xs) : OR e sz w [] w' [] A n cap xs :=
 ⟨O.len, SH.back F O.sh, O.own.imp id fun ⟨b, cur, h1, h2, h3, h4, h5, h6⟩ => ⟨b, cur, h1, h2, h3, h4, h5, SH.back F h6⟩⟩
theorem OR.some_of {e : TypeId} {sz : Nat} {w0 : World} {S : List Nat} {w : World} {L : List Ent} {A : Option Addr} {n cap : Nat} {xs : List Value} (O : OR e sz w0 S w L A n cap xs) (h : 0 < n) : ∃ ad, A = some ad := by
 rcases O.own with ⟨_, rfl, _⟩ | ⟨b, cur, rfl, _⟩
 ·omega
 ·exact ⟨_, rfl⟩
theorem OR.one {e : TypeId} {w0 : World} {S : List Nat} {w : World} {L : List Ent} {ad : Addr} {n cap i : Nat} {xs : List Value} {v : Value} (O : OR e 1 w0 S w L (some ad) n cap xs) (h : xs[i]? = some v) : w.cell? (ad.add i) = some v := by
 obtain ⟨ad', he, hc⟩ := O.cells i v h
 obtain rfl := Option.some.inj he
 exact hc
theorem BJ_len {xs : List UInt8} {junk : List Value} : (Bs xs ++ junk).length = xs.length + junk.length := by simp
theorem BJ_get {xs : List UInt8} {junk : List Value} {i : Nat} (h : i < xs.length) : (Bs xs ++ junk)[i]? = some (.int .u8 ((xs.getD i 0).toNat : Int)) := by
 rw [List.getElem?_append_left (by simpa using h)]; exact Bs_get h
theorem BJ_set {xs : List UInt8} {junk : List Value} {i : Nat} {u : UInt8} (h : i < xs.length) : (Bs xs ++ junk).set i (.int .u8 (u.toNat : Int)) = Bs (xs.set i u) ++ junk := by
 rw [List.set_append_left _ _ (by simpa using h)]
 rw [← Bs_set]; rfl
theorem sh_cells0 {w0 w : World} {S : List Nat} {b : Nat} {T : TypeId} {L : List Ent} {cs cs' : List Value} {m : Bool} {fr : Nat × Nat} (H : SH w0 S w (⟨b, .cells cs.toArray T fr, m⟩ :: L)) (e : cs = cs') : SH w0 S w (⟨b, .cells cs'.toArray T fr, m⟩ :: L) := e ▸ H
theorem RB.cells {w : World} {B : Option Addr} {n : Nat} {b : List UInt8} (h : RB w B n b) : ∀ j u, (Bs b)[j]? = some u → ∃ ad, B = some ad ∧ w.cell? (ad.add j) = some u := by
 intro j u hu
 have hj : j < b.length := by simpa using (List.getElem?_eq_some_iff.1 hu).1
 rw [Bs_get hj] at hu
 obtain rfl := Option.some.inj hu
 exact h.2 j (by rw [← h.1]; exact hj)
theorem RB.bj {w0 w : World} {S : List Nat} {L : List Ent} {b m : Nat} {xs : List UInt8} {junk : List Value} {T : TypeId} {fr : Nat × Nat} (H : SH w0 S w L) [k : Look L b (.cells (Bs xs ++ junk).toArray T fr)] (e : xs.length = m) : RB w (some ⟨b, 0, none⟩) m xs := by
 have hb := H.look (b := b) (o := .cells (Bs xs ++ junk).toArray T fr)
 refine ⟨e, fun i hi => ⟨_, rfl, ?_⟩⟩
 rw [Addr.add_lit, cell_at hb, Nat.zero_add]
 exact BJ_get (by omega)
theorem RB.at {w : World} {ad : Addr} {n : Nat} {xs : List UInt8} (h : RB w (some ad) n xs) (i : Nat) (hi : i < n) : w.cell? (ad.add i) = some (.int .u8 ((xs.getD i 0).toNat : Int)) := by
 obtain ⟨ad', e, hx⟩ := h.2 i hi
 cases e; exact hx
theorem take_split {cur l : List Value} {n : Nat} (h : cur.take n = l) : ∃ junk, cur = l ++ junk := ⟨cur.drop n, by rw [← h, List.take_append_drop]⟩
theorem OR.subX {e : TypeId} {sz : Nat} {w0 : World} {S : List Nat} {w : World} {L L' : List Ent} {A : Option Addr} {n cap : Nat} {xs : List Value} (O : OR e sz w0 S w L A n cap xs) (h : List.Sublist L' L := by repeat (first | exact List.Sublist.refl _ | exact List.nil_sublist _ | apply List.Sublist.cons_cons | apply List.Sublist.cons)) : OR e sz w0 S w L' A n cap xs := O.sub h
end Go.Proofs.YthcaejaaalkglaaDoor.X
/- Rows of partitions in memory. -/
namespace Go.Proofs.YthcaejaaalkglaaDoor.X
open Go
set_option linter.unusedVariables false
theorem flatN_index {α : Type} {f : α → List Value} {k : Nat} (hk : 0 < k) (hf : ∀ x, (f x).length = k) {qs : List α} : ∀ (j : Nat) (u : Value), (qs.flatMap f)[j]? = some u → ∃ q, qs[j / k]? = some q ∧ (f q)[j % k]? = some u := by
 induction qs with
 | nil => intro j u h; simp at h
 | cons q l ih =>
  intro j u h
  simp only [List.flatMap_cons] at h
  by_cases hj : j < k
  ·rw [List.getElem?_append_left (by rw [hf]; exact hj)] at h
   rw [Nat.div_eq_of_lt hj, Nat.mod_eq_of_lt hj]
   exact ⟨q, rfl, h⟩
  ·rw [List.getElem?_append_right (by rw [hf]; omega), hf] at h
   obtain ⟨q', h1, h2⟩ := ih _ _ h
   have e : j = (j - k) + k := by omega
   refine ⟨q', ?_, ?_⟩
   ·rw [e, Nat.add_div_right _ hk]; simpa using h1
   ·rw [e, Nat.add_mod_right]; exact h2
structure RG (w : World) (D : Option Addr) (m c : Nat) (ps : List GP) : Prop where
 len : ps.length = m
 cap : m ≤ c ∧ c ≤ maxLen
 nil : D = none → m = 0
 at' : ∀ j u, (ps.flatMap GP.cells)[j]? = some u → ∃ ad, D = some ad ∧ w.cell? (ad.add j) = some u
 ok : ∀ p ∈ ps, p.ok
theorem RG.keep {w w' : World} {A : Option Addr} {m c : Nat} {qs : List GP} (h : RG w A m c qs) (f : Fr [] w w') : RG w' A m c qs :=
 ⟨h.len, h.cap, h.nil, fun j u hu => let ⟨ad, e, hc⟩ := h.at' j u hu; ⟨ad, e, f.cell hc (by simp)⟩, h.ok⟩
theorem RG.elem {w : World} {ad : Addr} {m c i : Nat} {qs : List GP} {q : GP} (h : RG w (some ad) m c qs) (hq : qs[i]? = some q) : ∀ j v, q.cells[j]? = some v → w.cell? ((ad.add (i * 8)).add j) = some v := by
 intro j v hv
 have hg := flat_get GP.cells_len qs i q hq
 have hj : j < 8 := by have := (List.getElem?_eq_some_iff.1 hv).1; rwa [GP.cells_len] at this
 have e : (qs.flatMap GP.cells)[i * 8 + j]? = some v := by
  rw [← hv, ← hg, List.getElem?_take, if_pos hj, List.getElem?_drop]
 obtain ⟨ad', he, hc⟩ := h.at' _ v e
 obtain rfl := Option.some.inj he
 rw [Addr.add_add]; exact hc
theorem RG.some_of {w : World} {D : Option Addr} {m c : Nat} {qs : List GP} (h : RG w D m c qs) (hm : 0 < m) : ∃ ad, D = some ad := by
 cases D with
 | none => have := h.nil rfl; omega
 | some ad => exact ⟨ad, rfl⟩
theorem RG.of_own {e : TypeId} {w0 : World} {S : List Nat} {w : World} {L : List Ent} {A : Option Addr} {cap : Nat} {ps : List GP} (O : OR e 8 w0 S w L A ps.length cap (ps.flatMap GP.cells)) (ok : ∀ p ∈ ps, p.ok) : RG w A ps.length cap ps := by
 refine ⟨rfl, O.cap_ge, fun h => ?_, O.cells, ok⟩
 rcases O.own with ⟨_, h2, _⟩ | ⟨b, cur, h2, _⟩
 ·exact h2
 ·rw [h] at h2; cases h2
theorem gp_one {qs : List GP} : ∀ u ∈ qs.flatMap GP.cells, u.oneCell' = true := by
 intro u hu
 obtain ⟨q, _, hq⟩ := List.mem_flatMap.1 hu
 simp [GP.cells] at hq
 rcases hq with h | h | h | h | h | h | h | h <;> subst h <;> rfl
theorem arr_take {ps : List GP} {i : Nat} {p : GP} (h : ps[i]? = some p) : (ps.take (i + 1)).foldl arrP (List.replicate 16384 0) = arrP ((ps.take i).foldl arrP (List.replicate 16384 0)) p := by
 rw [take_succ_get h, List.foldl_append]; rfl
theorem protM_ok {n : Nat} (h : 80 ≤ n ∧ n ≤ 100000) : ∀ p ∈ protM n, p.ok := by
 intro p hp
 simp only [protM, List.mem_cons, List.not_mem_nil, or_false] at hp
 rcases hp with rfl | rfl | rfl | rfl
 ·constructor <;> simp only <;> omega
 ·exact MP.zero_ok
 ·exact MP.zero_ok
 ·exact MP.zero_ok
end Go.Proofs.YthcaejaaalkglaaDoor.X
/- The two tables of package utf8, as a walk needs them. -/
namespace Go.Proofs.YthcaejaaalkglaaDoor.X
open Go
def Utf8W (w : World) : Prop := (∀ i, i < 256 → ∃ c : Int, (0 ≤ c ∧ c ≤ 255) ∧ w.cell? ⟨0, i, none⟩ = some (.int .u8 c)) ∧ (∀ i, i < 16 → ∃ a b : Int, ((0 ≤ a ∧ a ≤ 255) ∧ (0 ≤ b ∧ b ≤ 255)) ∧ w.cell? ⟨1, i * 2, none⟩ = some (.int .u8 a) ∧ w.cell? ⟨1, i * 2 + 1, none⟩ = some (.int .u8 b))
theorem Utf8W.keep {w w' : World} (h : Utf8W w) (f : Fr [] w w') : Utf8W w' :=
  ⟨fun i hi => by obtain ⟨c, h1, h2⟩ := h.1 i hi; exact ⟨c, h1, f.cell h2 (by simp)⟩,
   fun i hi => by obtain ⟨a, b, h1, h2, h3⟩ := h.2 i hi; exact ⟨a, b, h1, f.cell h2 (by simp), f.cell h3 (by simp)⟩⟩
theorem Utf8W.two {w : World} (h : Utf8W w) {i : Nat} (hi : i < 16) : ∃ a b : Int, ((0 ≤ a ∧ a ≤ 255) ∧ (0 ≤ b ∧ b ≤ 255)) ∧ ∀ j v, [Value.int .u8 a, Value.int .u8 b][j]? = some v → w.cell? ((⟨1, i * 2, none⟩ : Addr).add j) = some v := by
  obtain ⟨a, b, h1, h2, h3⟩ := h.2 i hi
  refine ⟨a, b, h1, fun j v hv => ?_⟩
  rw [Addr.add_lit]
  match j, hv with
  | 0, hv => cases hv; exact h2
  | 1, hv => cases hv; exact h3
theorem all_next {P : GP → Prop} {ps : List GP} {i : Nat} {p : GP} (h : ∀ j q, j < i → ps[j]? = some q → P q) (hp : ps[i]? = some p) (hP : P p) : ∀ j q, j < i + 1 → ps[j]? = some q → P q := fun j q hj hq => by
  rcases Nat.lt_or_ge j i with h1 | h1
  · exact h j q h1 hq
  · obtain rfl : j = i := by omega
    rw [hp] at hq; cases hq; exact hP
theorem all_mem {P : GP → Prop} {ps : List GP} {i : Nat} (hl : ps.length ≤ i) (h : ∀ j q, j < i → ps[j]? = some q → P q) : ∀ p ∈ ps, P p := fun p hp => by
  obtain ⟨j, hj⟩ := List.getElem?_of_mem hp
  exact h j p (by have := (List.getElem?_eq_some_iff.1 hj).1; omega) hj
end Go.Proofs.YthcaejaaalkglaaDoor.X
/- A table of partitions that came in. -/
namespace Go.Proofs.YthcaejaaalkglaaDoor.X
open Go
set_option linter.unusedVariables false
def shpGP : Shp := .agg 8 (.cons 0 1 (.int .i64) (.cons 1 1 (.int .u64) (.cons 2 1 (.int .u64) (.cons 3 1 (.int .u64) (.cons 4 1 .str (.cons 5 1 .str (.cons 6 1 .str (.cons 7 1 (.int .u64) .nil))))))))
def shpGT : Shp := .agg 5 (.cons 0 1 (.row 8 shpGP) (.cons 1 1 (.int .i64) (.cons 2 1 .str (.cons 3 1 .bool (.cons 4 1 .bool .nil)))))
theorem str_ex (s : ByteArray) : ∃ l, s = str l := ⟨s.data.toList, (str_data _).symm⟩
theorem gp_of {w : World} {cs : List Value} (h : Is w shpGP cs) : ∃ p : GP, cs = p.cells ∧ p.ok := by
 simp only [shpGP, Is, IsAll] at h
 obtain ⟨hl, h⟩ := h
 match cs, hl with
 | [v0, v1, v2, v3, v4, v5, v6, v7], _ =>
  simp [-Bool.exists_bool] at h
  obtain ⟨⟨x0, rfl, h0⟩, ⟨x1, rfl, h1⟩, ⟨x2, rfl, h2⟩, ⟨x3, rfl, h3⟩, ⟨x4, rfl, h4⟩, ⟨x5, rfl, h5⟩, ⟨x6, rfl, h6⟩, ⟨x7, rfl, h7⟩⟩ := h
  obtain ⟨l4, rfl⟩ := str_ex x4
  obtain ⟨l5, rfl⟩ := str_ex x5
  obtain ⟨l6, rfl⟩ := str_ex x6
  exact ⟨⟨x0, x1, x2, x3, l4, l5, l6, x7⟩, rfl, ⟨wf_i64 h0, wf_u64 h1, wf_u64 h2, wf_u64 h3, wf_u64 h7⟩⟩
theorem RG.of {w : World} {v : Value} (h : Is w (.row 8 shpGP) [v]) : ∃ A m c qs, v = .slice A m c ∧ RG w A m c qs := by
 simp only [Is] at h
 rcases h with h | ⟨a, len, cap, h, hl, hc, hel⟩
 ·simp at h
  exact ⟨none, 0, 0, [], h, rfl, ⟨Nat.le_refl _, by decide⟩, fun _ => rfl, by simp, by simp⟩
 ·simp at h
  have key : ∀ n, n ≤ len → ∃ qs : List GP, qs.length = n ∧ (∀ i q, qs[i]? = some q → q.ok ∧ ∀ j u, q.cells[j]? = some u → w.cell? ((a.add (i * 8)).add j) = some u) := by
   intro n
   induction n with
   | zero => intro _; exact ⟨[], rfl, by simp⟩
   | succ n ih =>
    intro hn
    obtain ⟨qs, h1, h2⟩ := ih (by omega)
    obtain ⟨es, he1, he2, he3⟩ := hel n (by omega)
    obtain ⟨q, rfl, hq⟩ := gp_of he3
    refine ⟨qs ++ [q], by simp [h1], fun i q' hi => ?_⟩
    by_cases hin : i < qs.length
    ·rw [List.getElem?_append_left hin] at hi; exact h2 i q' hi
    ·rw [List.getElem?_append_right (by omega)] at hi
     have hi0 : i - qs.length = 0 := by
      have := (List.getElem?_eq_some_iff.1 hi).1
      simp at this; omega
     rw [hi0] at hi
     simp at hi
     subst hi
     obtain rfl : i = n := by omega
     exact ⟨hq, he2⟩
  obtain ⟨qs, h1, h2⟩ := key len (Nat.le_refl _)
  refine ⟨some a, len, cap, qs, h, h1, ⟨hl, hc⟩, fun h => (by cases h), fun j u hu => ⟨a, rfl, ?_⟩, fun q hq => ?_⟩
  ·obtain ⟨q, hq, hqu⟩ := flatN_index (f := GP.cells) (by decide) GP.cells_len j u hu
   have := (h2 _ _ hq).2 _ _ hqu
   rw [Addr.add_add] at this
   rwa [show j / 8 * 8 + j % 8 = j by omega] at this
  ·obtain ⟨i, hi, hq'⟩ := List.getElem_of_mem hq
   exact (h2 i q (by rw [List.getElem?_eq_getElem hi, hq'])).1
theorem gt_of {w : World} {cs : List Value} (h : Is w shpGT cs) : ∃ D m c sec g pr rc ps, cs = gtCells D m c sec g pr rc ∧ RG w D m c ps ∧ (Lit.int .i64 sec).wf = true := by
 unfold shpGT at h
 rw [Is] at h
 obtain ⟨hl, h⟩ := h
 match cs, hl with
 | [v0, v1, v2, v3, v4], _ =>
  simp only [IsAll] at h
  obtain ⟨h0, h1, h2, h3, h4, _⟩ := h
  obtain ⟨A, m, c, qs, rfl, hq⟩ := RG.of (v := v0) (by simpa using h0)
  simp only [Is] at h1 h2 h3 h4
  simp [-Bool.exists_bool] at h1 h2 h3 h4
  obtain ⟨x1, rfl, w1⟩ := h1
  obtain ⟨x2, rfl, w2⟩ := h2
  obtain ⟨x3, rfl⟩ := h3
  obtain ⟨x4, rfl⟩ := h4
  obtain ⟨l2, rfl⟩ := str_ex x2
  exact ⟨A, m, c, x1, l2, x3, x4, qs, rfl, hq, w1⟩
theorem two_of {w : World} {cs : List Value} (h : Is w (.agg 2 (.cons 0 1 (.int .u8) (.cons 1 1 (.int .u8) .nil))) cs) : ∃ a b : Int, cs = [.int .u8 a, .int .u8 b] ∧ (0 ≤ a ∧ a ≤ 255) ∧ (0 ≤ b ∧ b ≤ 255) := by
 simp only [Is, IsAll] at h
 obtain ⟨hl, h⟩ := h
 match cs, hl with
 | [v0, v1], _ =>
  simp at h
  obtain ⟨⟨x0, rfl, h0⟩, ⟨x1, rfl, h1⟩⟩ := h
  exact ⟨x0, x1, rfl, wf_u8 h0, wf_u8 h1⟩
end Go.Proofs.YthcaejaaalkglaaDoor.X
/- What the listed tables of package utf8 give a walk, and a world in which they lie. -/
namespace Go.Proofs.YthcaejaaalkglaaDoor.X
open Go
def laidU : List (String × DataW Unit) := [("unicode/utf8.acceptRanges", Rows.laid_unicode_utf8_acceptRanges), ("unicode/utf8.first", Rows.laid_unicode_utf8_first)]
set_option maxRecDepth 100000 in
theorem laidU_plain {W : World} (h : laidMetH Tryd.prog laidU W) : laidMet Tryd.prog laidU W := by
 rw [MakeChecks.laidMetH_plain _ _ _ (by kernel_rfl)] at h
 exact h
set_option maxRecDepth 100000 in
theorem utf8_of_laid {W : World} (h : laidMetH Tryd.prog laidU W) : Utf8W W := by
 have h := laidU_plain h
 obtain ⟨ps, ⟨g1, t1, cs1, f1, p1, q1, hg1, ht1, hv1, hd1, ⟨g0, t0, cs0, f0, p0, q0, hg0, ht0, hv0, hd0, _, _⟩, _⟩, _, _⟩ := h
 obtain rfl := Option.some.inj ((show Tryd.prog.globalNamed "unicode/utf8.acceptRanges" = some 1 by kernel_rfl).symm.trans hg1)
 obtain rfl := Option.some.inj ((show Tryd.prog.globalNamed "unicode/utf8.first" = some 0 by kernel_rfl).symm.trans hg0)
 obtain rfl := Option.some.inj ((show (Tryd.prog.globals[1]?).map (·.type) = some 86 by kernel_rfl).symm.trans ht1)
 obtain rfl := Option.some.inj ((show (Tryd.prog.globals[0]?).map (·.type) = some 83 by kernel_rfl).symm.trans ht0)
 refine ⟨fun i hi => ?_, fun i hi => ?_⟩
 ·obtain ⟨xs, m, _, ex, _, hl, hel⟩ := DataW.trod_array Tryd.underlying83 hd0
  have c5 : Tryd.prog.cellsOf 5 = 1 := by kernel_rfl
  have hE := hel i hi
  rw [c5, Nat.mul_one, List.getElem?_eq_getElem (by omega)] at hE
  obtain ⟨z, e1, _, hw⟩ := DataW.trod_int Tryd.underlying5 hE
  refine ⟨z, wf_u8 hw, ?_⟩
  rw [World.var?_cell hg0 hv0 i]
  have : cs0.toList[i]? = some (.int .u8 z) := by
   have h0 : ((cs0.toList.drop i).take 1)[0]? = some (.int .u8 z) := by rw [e1]; rfl
   simpa using h0
  simpa using this
 ·obtain ⟨xs, m, _, ex, _, hl, hel⟩ := DataW.trod_array Tryd.underlying86 hd1
  have c5 : Tryd.prog.cellsOf 85 = 2 := by kernel_rfl
  have hE := hel i hi
  rw [c5, List.getElem?_eq_getElem (by omega)] at hE
  have hi2 := of_trod 8 85 _ _ _ hE
  have sh : shpOf Tryd.prog 8 85 = .agg 2 (.cons 0 1 (.int .u8) (.cons 1 1 (.int .u8) .nil)) := by kernel_rfl
  rw [sh] at hi2
  obtain ⟨a, b, e, wa, wb⟩ := two_of hi2
  refine ⟨a, b, ⟨wa, wb⟩, ?_, ?_⟩
  ·rw [World.var?_cell hg1 hv1 (i * 2)]
   have : cs1.toList[i * 2]? = some (.int .u8 a) := by
    have h0 : ((cs1.toList.drop (i * 2)).take 2)[0]? = some (.int .u8 a) := by rw [e]; rfl
    simpa [List.getElem?_take, List.getElem?_drop] using h0
   simpa using this
  ·rw [World.var?_cell hg1 hv1 (i * 2 + 1)]
   have : cs1.toList[i * 2 + 1]? = some (.int .u8 b) := by
    have h0 : ((cs1.toList.drop (i * 2)).take 2)[1]? = some (.int .u8 b) := by rw [e]; rfl
    simpa [List.getElem?_take, List.getElem?_drop] using h0
   simpa using this
end Go.Proofs.YthcaejaaalkglaaDoor.X
/- Regions whose order the program leaves open: operations that only look are taken first; one that writes ends what was held. -/
namespace Go.Proofs.YthcaejaaalkglaaDoor.X
set_option linter.unusedVariables false
open Go Go.RowKit
section base
variable {P : Program} {ops : Array Oper} {Q : Exit → Act → World → Prop} {S : World → Prop} {B : List Nat}
def anyB (P : Program) (ops : Array Oper) (Q : Exit → Act → World → Prop) (S : World → Prop) (B : List Nat) : Nat → Array Bool → Act → World → Prop
 | 0, listed, a, w => Region.ready .any ops listed = [] ∧ Q .normal a w
 | m + 1, listed, a, w => (Region.ready .any ops listed = [] → Q .normal a w) ∧
   ∀ i ∈ Region.ready .any ops listed, wpOp P ops Q i (fun a' w' => cond (memb i B) (wpAny P .any ops Q m (listed.setIfInBounds i true) a' w') (S w' ∧ anyB P ops Q S B m (listed.setIfInBounds i true) a' w')) a w
theorem any_of_B : ∀ (m : Nat) (listed : Array Bool) (a : Act) (w : World), anyB P ops Q S B m listed a w → wpAny P .any ops Q m listed a w
 | 0, _, _, _, h => h
 | m + 1, listed, a, w, h => ⟨h.1, fun i hi => wpOp_mono (fun a' w' k => by
   cases hb : memb i B with
   | true => rw [hb] at k; exact k
   | false => rw [hb] at k; exact any_of_B m _ a' w' k.2) (h.2 i hi)⟩
theorem anyB_mono {S' : World → Prop} (hS : ∀ w, S' w → S w) : ∀ (m : Nat) (listed : Array Bool) (a : Act) (w : World), anyB P ops Q S' B m listed a w → anyB P ops Q S B m listed a w
 | 0, _, _, _, h => h
 | m + 1, listed, a, w, h => ⟨h.1, fun i hi => wpOp_mono (fun a' w' k => by
   cases hb : memb i B with
   | true => rw [hb] at k; exact k
   | false => rw [hb] at k; exact ⟨hS _ k.1, anyB_mono hS m _ a' w' k.2⟩) (h.2 i hi)⟩
def waits (ops : Array Oper) (B : List Nat) (i : Nat) : Bool :=
 B.all fun k => match ops[k]? with
  | some o => o.after.any fun e => Region.binds .any e && e.on == i
  | none => true
theorem anyB_first {i : Nat} {oi : Oper} {v : Value} (hi : ops[i]? = some oi) (hns : Region.noSelect ops = true) (hw : waits ops B i = true) (hiB : memb i B = false)
  (hQ : ∀ c a w, Q (.panic c) (a.put oi.dst v) w → Q (.panic c) a w) : ∀ (m : Nat) (listed : Array Bool) (a : Act) (w : World),
  (∀ (j : Nat) (oj : Oper), ops[j]? = some oj → j ≠ i → listed.getD j true = false → (∀ e ∈ oj.after, Region.binds .any e = true → e.on ≠ i) → oi.apart ops oj = true) →
  i ∈ Region.ready .any ops listed → YieldsIf P ops S oi v a → S w → anyB P ops Q S B m (listed.setIfInBounds i true) (a.put oi.dst v) w → anyB P ops Q S B (m + 1) listed a w := by
 have hsel := Region.noSelect_spec hns
 intro m
 induction m with
 | zero =>
  intro listed a w _ hr hy hS h
  refine ⟨fun e => (by rw [e] at hr; cases hr), fun j hj => ?_⟩
  rcases Nat.decEq j i with hne | heq
  ·have hx := ready_mono hj hne
   rw [h.1] at hx
   cases hx
  ·subst heq
   refine hy.wpOp hi hS ?_
   rw [hiB]; exact ⟨hS, h⟩
 | succ m ih =>
  intro listed a w hfree hr hy hS h
  refine ⟨fun e => (by rw [e] at hr; cases hr), fun j hj => ?_⟩
  rcases Nat.decEq j i with hne | heq
  ·obtain ⟨hju, oj, hoj, hall⟩ := mem_ready.1 hj
   have hiu := (mem_ready.1 hr).1
   have hno : ∀ e ∈ oj.after, Region.binds .any e = true → e.on ≠ i := by
    intro e he hb he'
    have h1 := hall e he hb
    rw [he'] at h1
    rcases Nat.lt_or_ge i listed.size with hl | hl
    ·simp [hl] at hiu h1; rw [hiu] at h1; cases h1
    ·simp [Array.getElem?_eq_none hl] at h1
   have hjB : memb j B = false := by
    cases hb : memb j B with
    | false => rfl
    | true =>
     exfalso
     have hm : j ∈ B := by
      clear hw hiB h ih
      induction B with
      | nil => cases hb
      | cons s r ihB =>
       simp only [memb] at hb
       cases hq : Nat.beq j s with
       | true => rw [Nat.eq_of_beq_eq_true hq]; exact .head _
       | false => rw [hq] at hb; exact .tail _ (ihB hb)
     have hwj := List.all_eq_true.1 hw j hm
     simp only [hoj] at hwj
     obtain ⟨e, he, hb⟩ := Array.any_eq_true'.1 hwj
     simp only [Bool.and_eq_true, beq_iff_eq] at hb
     exact hno e he hb.1 hb.2
   have h1 := h.2 j (ready_mono hj hne)
   rw [hjB] at h1
   have h2 := wpOp_putIf hoj (hfree j oj hoj hne hju hno) (fun cs b => hsel i oi cs b hi) (fun cs b => hsel j oj cs b hoj) hQ hy h1
   rw [hjB]
   refine wpOp_mono (fun a' w' k => ⟨k.2.1, ih (listed.setIfInBounds j true) a' w' ?_ (ready_mono hr (fun e => hne e.symm)) k.1 k.2.1 ?_⟩) h2
   ·intro k' ok hk hki hun hn
    refine hfree k' ok hk hki ?_ hn
    rcases Nat.decEq j k' with hjk | hjk
    ·rw [getD_set_ne true hjk] at hun; exact hun
    ·subst hjk; exact hju
   ·rw [Array.setIfInBounds_comm _ _ hne]
    exact k.2.2
  ·subst heq
   refine hy.wpOp hi hS ?_
   rw [hiB]; exact ⟨hS, h⟩
end base
def np (Q : Post) : Post
 | .panic _, _, _ => False
 | e, ρ, w => Q e ρ w
theorem np_imp {Q : Post} {e : Exit} {ρ : Env} {w : World} (h : np Q e ρ w) : Q e ρ w := by cases e <;> first | exact h | exact h.elim
section env
variable {P : Program} {n m : Nat} {ops : Array Oper} {Q : Post} {ρ : Env} {w : World} {S S' : World → Prop} {B : List Nat} {listed listed' : Array Bool}
def wn (P : Program) (n : Nat) (ops : Array Oper) (Q : Post) (m : Nat) (listed : Array Bool) (ρ : Env) (w : World) : Prop :=
 ∀ a : Act, a.defers = [] → a.tmps.size = n → envOf a = ρ → wpAny P .any ops (lift n (np Q)) m listed a w
def wa (P : Program) (n : Nat) (ops : Array Oper) (Q : Post) (S : World → Prop) (B : List Nat) (m : Nat) (listed : Array Bool) (ρ : Env) (w : World) : Prop :=
 ∀ a : Act, a.defers = [] → a.tmps.size = n → envOf a = ρ → anyB P ops (lift n (np Q)) S B m listed a w
theorem dr {id : Nat} {l : List Oper} (hm : P.follows .mixedOrders = true) (h : wn P n l.toArray Q l.length (Array.replicate l.length false) ρ w.drew) : cw P n (.region id l.toArray true) Q ρ w := by
 intro a hd hs he
 refine wp_mono (Q := lift n (np Q)) (wp_region_any hm ?_) (fun e a w h => ⟨h.1, h.2.1, np_imp h.2.2⟩)
 have := h a hd hs he
 simpa using this
theorem anyB_true : ∀ (m : Nat) (listed : Array Bool) (a : Act) (w : World) {Q : Exit → Act → World → Prop}, wpAny P .any ops Q m listed a w → anyB P ops Q (fun _ => True) [] m listed a w
 | 0, _, _, _, _, h => h
 | m + 1, listed, a, w, _, h => ⟨h.1, fun i hi => wpOp_mono (fun a' w' k => ⟨trivial, anyB_true m _ a' w' k⟩) (h.2 i hi)⟩
theorem unfree (h : wn P n ops Q m listed ρ w) : wa P n ops Q (fun _ => True) [] m listed ρ w :=
 fun a hd hs he => anyB_true _ _ _ _ (h a hd hs he)
theorem hold (S : World → Prop) (B : List Nat) (h : wa P n ops Q S B m listed ρ w) : wn P n ops Q m listed ρ w :=
 fun a hd hs he => any_of_B _ _ _ _ (h a hd hs he)
theorem up (h : wa P n ops Q S' B m listed ρ w) (hS : ∀ w, S' w → S w) : wa P n ops Q S B m listed ρ w :=
 fun a hd hs he => anyB_mono hS _ _ _ _ (h a hd hs he)
theorem holdH {w0 : World} {T : List Nat} {L : List Ent} (H : SH w0 T w L) (B : List Nat) (h : wa P n ops Q (fun w' => SH w0 T w' L) B m listed ρ w) : wn P n ops Q m listed ρ w := hold _ B h
theorem spa {t : Nat} {b : Bool} (hv : ρ t = .bool b) (ht : b = true → wa P n ops Q S B m listed (upd ρ t (.bool true)) w) (hf : b = false → wa P n ops Q S B m listed (upd ρ t (.bool false)) w) : wa P n ops Q S B m listed ρ w := by
 cases b with
 | true => exact upd_self hv ▸ ht rfl
 | false => exact upd_self hv ▸ hf rfl
theorem spad {t : Nat} {p : Prop} [Decidable p] (hv : ρ t = .bool (decide p)) (ht : p → wa P n ops Q S B m listed (upd ρ t (.bool true)) w) (hf : ¬ p → wa P n ops Q S B m listed (upd ρ t (.bool false)) w) : wa P n ops Q S B m listed ρ w :=
 spa hv (fun h => ht (of_decide_eq_true h)) (fun h => hf (of_decide_eq_false h))
theorem spaL {t : Nat} {b : Bool} (hv : ρ t = .bool b) (k : wa P n ops Q S B m listed (upd ρ t (.bool b)) w) : wa P n ops Q S B m listed ρ w := upd_self hv ▸ k
theorem spaT {t : Nat} {p : Prop} [Decidable p] (hv : ρ t = .bool (decide p)) (hp : p) (ht : wa P n ops Q S B m listed (upd ρ t (.bool true)) w) : wa P n ops Q S B m listed ρ w :=
 spad hv (fun _ => ht) (fun h => absurd hp h)
theorem tk {i d : Nat} {op : Op} {ty : TypeId} {pos : String} {af : Array Edge} {v : Value} (hi : ops[i]? = some ⟨some d, op, ty, pos, af, none⟩)
  (hc : (Region.noSelect ops && Region.free .any ops listed i && (Region.ready .any ops listed).contains i && waits ops B i && !memb i B && Nat.blt d n) = true) (hl : listed.setIfInBounds i true = listed')
  (hS : S w) (hr : ∀ w', S w' → (execOp (ev ρ) ⟨some d, op, ty, pos, af, none⟩).run P w' = .ok (.value v) w') (k : wa P n ops Q S B m listed' (upd ρ d v) w) : wa P n ops Q S B (m + 1) listed ρ w := by
 intro a h1 h2 he
 simp only [Bool.and_eq_true, Bool.not_eq_true', Nat.blt_eq] at hc
 obtain ⟨⟨⟨⟨⟨c1, c2⟩, c3⟩, c4⟩, c5⟩, c6⟩ := hc
 refine anyB_first hi c1 c4 c5 (fun c a w h => h.2.2.elim) m listed a w (Region.free_spec hi c2) (by simpa using c3) (.inl ⟨by simp [Region.wanted], fun w' hw' => by rw [eval_envOf, he]; exact hr w' hw'⟩) hS ?_
 rw [hl]
 exact k _ (by rw [defers_put, h1]) (by rw [size_put, h2]) (by rw [envOf_put _ _ _ (by omega), he])
theorem tkbu {i d : Nat} {t : TypeId} {ps : List (Nat × Operand)} {zs out : List Value} {ty : TypeId} {pos : String} {af : Array Edge} (hi : ops[i]? = some ⟨some d, .build t ps.toArray, ty, pos, af, none⟩)
  (hc : (Region.noSelect ops && Region.free .any ops listed i && (Region.ready .any ops listed).contains i && waits ops B i && !memb i B && Nat.blt d n) = true) (hl : listed.setIfInBounds i true = listed')
  (hS : S w) (hz : zeroL P t = some zs) (hb : buildOK P t = true) (hf : FL P ρ t zs ps out) (k : wa P n ops Q S B m listed' (upd ρ d (.agg out.toArray)) w) : wa P n ops Q S B (m + 1) listed ρ w :=
 tk hi hc hl hS (fun _ _ => r_bu hz hb hf) k
theorem tkg {i d j : Nat} {b : Bool} {op : Op} {ty : TypeId} {pos : String} {af : Array Edge} {v : Value} (hi : ops[i]? = some ⟨some d, op, ty, pos, af, some (j, b)⟩)
  (hc : (Region.noSelect ops && Region.free .any ops listed i && (Region.ready .any ops listed).contains i && waits ops B i && !memb i B && Nat.blt d n) = true) (hl : listed.setIfInBounds i true = listed')
  (hS : S w) (hy : yieldedE ops ρ j = some b) (hr : ∀ w', S w' → (execOp (ev ρ) ⟨some d, op, ty, pos, af, some (j, b)⟩).run P w' = .ok (.value v) w') (k : wa P n ops Q S B m listed' (upd ρ d v) w) : wa P n ops Q S B (m + 1) listed ρ w := by
 intro a h1 h2 he
 simp only [Bool.and_eq_true, Bool.not_eq_true', Nat.blt_eq] at hc
 obtain ⟨⟨⟨⟨⟨c1, c2⟩, c3⟩, c4⟩, c5⟩, c6⟩ := hc
 have hy' := yielded_E a j b (he ▸ hy)
 refine anyB_first hi c1 c4 c5 (fun c a w h => h.2.2.elim) m listed a w (Region.free_spec hi c2) (by simpa using c3) (.inl ⟨by simp [Region.wanted, hy'], fun w' hw' => by rw [eval_envOf, he]; exact hr w' hw'⟩) hS ?_
 rw [hl]
 exact k _ (by rw [defers_put, h1]) (by rw [size_put, h2]) (by rw [envOf_put _ _ _ (by omega), he])
theorem tkn {i d j : Nat} {b : Bool} {op : Op} {ty : TypeId} {pos : String} {af : Array Edge} (hi : ops[i]? = some ⟨some d, op, ty, pos, af, some (j, b)⟩)
  (hc : (Region.noSelect ops && Region.free .any ops listed i && (Region.ready .any ops listed).contains i && waits ops B i && !memb i B && Nat.blt d n) = true) (hl : listed.setIfInBounds i true = listed')
  (hS : S w) (hy : yieldedE ops ρ j = some (!b)) (k : wa P n ops Q S B m listed' (upd ρ d undef) w) : wa P n ops Q S B (m + 1) listed ρ w := by
 intro a h1 h2 he
 simp only [Bool.and_eq_true, Bool.not_eq_true', Nat.blt_eq] at hc
 obtain ⟨⟨⟨⟨⟨c1, c2⟩, c3⟩, c4⟩, c5⟩, c6⟩ := hc
 have hy' := yielded_E a j (!b) (he ▸ hy)
 refine anyB_first hi c1 c4 c5 (fun c a w h => h.2.2.elim) m listed a w (Region.free_spec hi c2) (by simpa using c3) (.inr ⟨by simp [Region.wanted, hy'], rfl⟩) hS ?_
 rw [hl]
 exact k _ (by rw [defers_put, h1]) (by rw [size_put, h2]) (by rw [envOf_put _ _ _ (by omega), he])
theorem wpOp_of_list {Q' : Exit → Act → World → Prop} {K : Act → World → Prop} {i : Nat} {o : Oper} {a : Act} {w : World} (hi : ops[i]? = some o)
  (hp : ∀ c a w, Q' (.panic c) a w → Q' (.panic c) a w) (h : wpList P ops (Exit.then K Q') [o] a w) : wpOp P ops Q' i K a w := by
 unfold wpOp
 simp only [hi]
 unfold wpList at h
 by_cases hw : Region.wanted o (yielded ops a.tmps) = true
 ·rw [if_pos hw] at h
  rw [if_pos hw]
  rcases h with h | ⟨h1, h2⟩
  ·refine .inl ?_
   unfold Oper.wp at h ⊢
   cases hr : (execOp a.eval o).run P w with
   | ok x w' =>
    rw [hr] at h
    cases x <;> simp only [Oper.upon] at h ⊢ <;> exact h
   | halt x w' =>
    rw [hr] at h
    cases x <;> simp only [Oper.upon] at h ⊢ <;> exact h
  ·exact .inr ⟨h1, h2⟩
 ·rw [if_neg hw] at h
  rw [if_neg hw]
  exact h
theorem lift_then {K : Env → World → Prop} {e : Exit} {a : Act} {w : World} (h : lift n (thenQ K (np Q)) e a w) : Exit.then (fun a w => a.defers = [] ∧ a.tmps.size = n ∧ K (envOf a) w) (lift n (np Q)) e a w := by
 cases e <;> exact h
theorem wpList_imp {Q1 Q2 : Exit → Act → World → Prop} {o : Oper} {a : Act} {w : World} (hq : ∀ e a w, Q1 e a w → Q2 e a w) (h : wpList P ops Q1 [o] a w) : wpList P ops Q2 [o] a w := by
 unfold wpList at h ⊢
 by_cases hw : Region.wanted o (yielded ops a.tmps) = true
 ·rw [if_pos hw] at h ⊢
  rcases h with h | ⟨h1, a', w', h2⟩
  ·refine .inl ?_
   unfold Oper.wp at h ⊢
   cases hr : (execOp a.eval o).run P w with
   | ok x w' =>
    rw [hr] at h
    cases x <;> simp only [Oper.upon] at h ⊢ <;> first | exact hq _ _ _ h | skip
    ·exact h.mono fun e w'' r => by
      cases e with
      | returned v => exact hq _ _ _ r
      | panicked c => exact hq _ _ _ r
      | outgrown => obtain ⟨a, w, r⟩ := r; exact ⟨a, w, hq _ _ _ r⟩
    ·exact h.mono fun v w'' r => hq _ _ _ r
   | halt x w' =>
    rw [hr] at h
    cases x <;> simp only [Oper.upon] at h ⊢ <;> first | exact hq _ _ _ h | exact h
  ·exact .inr ⟨h1, a', w', hq _ _ _ h2⟩
 ·rw [if_neg hw] at h ⊢
  exact hq _ _ _ h
theorem fo {i : Nat} {o : Oper} (hr : Region.ready .any ops listed = [i]) (hi : ops[i]? = some o) (hl : listed.setIfInBounds i true = listed')
  (h : wl P n ops (thenQ (fun ρ' w' => wn P n ops Q m listed' ρ' w') (np Q)) [o] ρ w) : wn P n ops Q (m + 1) listed ρ w := by
 intro a h1 h2 he
 refine ⟨fun e => (by rw [hr] at e; cases e), fun j hj => ?_⟩
 rw [hr] at hj
 obtain rfl : j = i := by simpa using hj
 refine wpOp_mono ?_ (wpOp_of_list hi (fun _ _ _ h => h) (wpList_imp (fun e a w h => lift_then h) (h a h1 h2 he)))
 rintro a' w' ⟨k1, k2, k3⟩
 rw [hl]; exact k3 a' k1 k2 rfl
theorem fk {i : Nat} {o : Oper} (hr : Region.ready .any ops listed = [i]) (hi : ops[i]? = some o) (hl : listed.setIfInBounds i true = listed') (hb : memb i B = false)
  (h : wl P n ops (thenQ (fun ρ' w' => S w' ∧ wa P n ops Q S B m listed' ρ' w') (np Q)) [o] ρ w) : wa P n ops Q S B (m + 1) listed ρ w := by
 intro a h1 h2 he
 refine ⟨fun e => (by rw [hr] at e; cases e), fun j hj => ?_⟩
 rw [hr] at hj
 obtain rfl : j = i := by simpa using hj
 refine wpOp_mono ?_ (wpOp_of_list hi (fun _ _ _ h => h) (wpList_imp (fun e a w h => lift_then h) (h a h1 h2 he)))
 rintro a' w' ⟨k1, k2, k3, k4⟩
 rw [hb, hl]; exact ⟨k3, k4 a' k1 k2 rfl⟩
theorem fb {i : Nat} {o : Oper} (hr : Region.ready .any ops listed = [i]) (hi : ops[i]? = some o) (hl : listed.setIfInBounds i true = listed') (hb : memb i B = true)
  (h : wl P n ops (thenQ (fun ρ' w' => wn P n ops Q m listed' ρ' w') (np Q)) [o] ρ w) : wa P n ops Q S B (m + 1) listed ρ w := by
 intro a h1 h2 he
 refine ⟨fun e => (by rw [hr] at e; cases e), fun j hj => ?_⟩
 rw [hr] at hj
 obtain rfl : j = i := by simpa using hj
 refine wpOp_mono ?_ (wpOp_of_list hi (fun _ _ _ h => h) (wpList_imp (fun e a w h => lift_then h) (h a h1 h2 he)))
 rintro a' w' ⟨k1, k2, k3⟩
 rw [hb, hl]; exact k3 a' k1 k2 rfl
theorem manyA {R : List Nat} (hr : Region.ready .any ops listed = R)
  (h : ∀ i ∈ R, ∃ o, ops[i]? = some o ∧ memb i B = false ∧ wl P n ops (thenQ (fun ρ' w' => S w' ∧ wa P n ops Q S B m (listed.setIfInBounds i true) ρ' w') (np Q)) [o] ρ w)
  (h0 : R ≠ []) : wa P n ops Q S B (m + 1) listed ρ w := by
 intro a h1 h2 he
 refine ⟨fun e => absurd (hr.symm.trans e) h0, fun j hj => ?_⟩
 rw [hr] at hj
 obtain ⟨o, hi, hb, hw⟩ := h j hj
 refine wpOp_mono ?_ (wpOp_of_list hi (fun _ _ _ h => h) (wpList_imp (fun e a w h => lift_then h) (hw a h1 h2 he)))
 rintro a' w' ⟨k1, k2, k3, k4⟩
 rw [hb]; exact ⟨k3, k4 a' k1 k2 rfl⟩
theorem dn (hr : Region.ready .any ops listed = []) (h : Q .normal ρ w) : wn P n ops Q m listed ρ w := by
 intro a h1 h2 he
 exact wpAny_done hr ⟨h1, h2, he ▸ h⟩ m
theorem da (hr : Region.ready .any ops listed = []) (h : Q .normal ρ w) : wa P n ops Q S B m listed ρ w := by
 intro a h1 h2 he
 have h0 : lift n (np Q) .normal a w := ⟨h1, h2, he ▸ h⟩
 cases m with
 | zero => exact ⟨hr, h0⟩
 | succ m => exact ⟨fun _ => h0, by rw [hr]; simp⟩
end env
end Go.Proofs.YthcaejaaalkglaaDoor.X
/- What the operations that only look give: for regions whose order is open. (Printed out of Steps and Steps2 by mkruns.py.) -/
namespace Go.Proofs.YthcaejaaalkglaaDoor.X
set_option linter.unusedVariables false
open Go Go.RowKit
section
variable {P : Program} {ρ : Env} {w : World} {ty : TypeId} {pos : String} {af : Array Edge} {dd : Option Nat} {gg : Option (Nat × Bool)}
section
variable {t u : TypeId} {x y : Operand} {k : IntKind} {a b c : Int}
theorem r_add (hx : ev ρ x = .int k a) (hy : ev ρ y = .int k b) (hc : k.wrap (a + b) = c) : (execOp (ev ρ) ⟨dd, .binOp .add t x y u, ty, pos, af, gg⟩).run P w = .ok (.value ((.int k c))) w := by subst hc; simp [execOp, hx, hy, go_sem]
theorem r_sub (hx : ev ρ x = .int k a) (hy : ev ρ y = .int k b) (hc : k.wrap (a - b) = c) : (execOp (ev ρ) ⟨dd, .binOp .sub t x y u, ty, pos, af, gg⟩).run P w = .ok (.value ((.int k c))) w := by subst hc; simp [execOp, hx, hy, go_sem]
theorem r_mul (hx : ev ρ x = .int k a) (hy : ev ρ y = .int k b) (hc : k.wrap (a * b) = c) : (execOp (ev ρ) ⟨dd, .binOp .mul t x y u, ty, pos, af, gg⟩).run P w = .ok (.value ((.int k c))) w := by subst hc; simp [execOp, hx, hy, go_sem]
theorem r_quo (hx : ev ρ x = .int k a) (hy : ev ρ y = .int k b) (h0 : 0 ≤ a) (hb : 0 < b) (hc : k.wrap (a / b) = c) : (execOp (ev ρ) ⟨dd, .binOp .quo t x y u, ty, pos, af, gg⟩).run P w = .ok (.value ((.int k c))) w := by
  subst hc
  have hb' : ¬ b = 0 := by omega
  simp [execOp, hx, hy, eqGuard_quo, binOp_quo, Op.intDiv, hb', Int.tdiv_eq_ediv_of_nonneg h0]
theorem r_band (hx : ev ρ x = .int k a) (hy : ev ρ y = .int k b) (hc : bits .and k a b = c) : (execOp (ev ρ) ⟨dd, .binOp .and t x y u, ty, pos, af, gg⟩).run P w = .ok (.value ((.int k c))) w := by subst hc; simp [execOp, hx, hy, eqGuard_and, binOp_and, intBits_and]
theorem r_bor (hx : ev ρ x = .int k a) (hy : ev ρ y = .int k b) (hc : bits .or k a b = c) : (execOp (ev ρ) ⟨dd, .binOp .or t x y u, ty, pos, af, gg⟩).run P w = .ok (.value ((.int k c))) w := by subst hc; simp [execOp, hx, hy, eqGuard_or, binOp_or, intBits_or]
theorem r_shl {yk : IntKind} (hx : ev ρ x = .int k a) (hy : ev ρ y = .int yk b) (h0 : 0 ≤ b) (hc : k.wrap (a * 2 ^ (min b.toNat k.bits)) = c) : (execOp (ev ρ) ⟨dd, .binOp .shl t x y u, ty, pos, af, gg⟩).run P w = .ok (.value ((.int k c))) w := by
  subst hc
  have : ¬ b < 0 := by omega
  simp [execOp, hx, hy, eqGuard_shl, binOp_shl, Op.shift, this]
theorem r_shr {yk : IntKind} (hx : ev ρ x = .int k a) (hy : ev ρ y = .int yk b) (h0 : 0 ≤ b) (hc : a / 2 ^ (min b.toNat k.bits) = c) : (execOp (ev ρ) ⟨dd, .binOp .shr t x y u, ty, pos, af, gg⟩).run P w = .ok (.value ((.int k c))) w := by
  subst hc
  have : ¬ b < 0 := by omega
  have e : a.fdiv (2 ^ (min b.toNat k.bits)) = a / 2 ^ (min b.toNat k.bits) := Int.fdiv_eq_ediv_of_nonneg _ (by exact Int.le_of_lt (Int.pow_pos (by decide)))
  simp [execOp, hx, hy, eqGuard_shr, binOp_shr, Op.shift, this, e]
theorem r_eql (hx : ev ρ x = .int k a) (hy : ev ρ y = .int k b) : (execOp (ev ρ) ⟨dd, .binOp .eql t x y u, ty, pos, af, gg⟩).run P w = .ok (.value ((.bool (decide (a = b))))) w := by simp [execOp, hx, hy, eqGuard_at_int, binOp_eql]; rfl
theorem r_neq (hx : ev ρ x = .int k a) (hy : ev ρ y = .int k b) : (execOp (ev ρ) ⟨dd, .binOp .neq t x y u, ty, pos, af, gg⟩).run P w = .ok (.value ((.bool (decide (a ≠ b))))) w := by
  have : (a != b) = decide (a ≠ b) := by rw [Bool.eq_iff_iff]; simp
  simp [execOp, hx, hy, eqGuard_at_int, binOp_neq, this]
theorem r_lss (hx : ev ρ x = .int k a) (hy : ev ρ y = .int k b) : (execOp (ev ρ) ⟨dd, .binOp .lss t x y u, ty, pos, af, gg⟩).run P w = .ok (.value ((.bool (decide (a < b))))) w := by simp [execOp, hx, hy, eqGuard_at_int, binOp_lss]
theorem r_leq (hx : ev ρ x = .int k a) (hy : ev ρ y = .int k b) : (execOp (ev ρ) ⟨dd, .binOp .leq t x y u, ty, pos, af, gg⟩).run P w = .ok (.value ((.bool (decide (a ≤ b))))) w := by simp [execOp, hx, hy, eqGuard_at_int, binOp_leq]
theorem r_gtr (hx : ev ρ x = .int k a) (hy : ev ρ y = .int k b) : (execOp (ev ρ) ⟨dd, .binOp .gtr t x y u, ty, pos, af, gg⟩).run P w = .ok (.value ((.bool (decide (b < a))))) w := by simp [execOp, hx, hy, eqGuard_at_int, binOp_gtr]
end
section
variable {w0 : World} {S : List Nat} {L L' : List Ent} {A : Option Addr} {b o f1 f2 len cap sz : Nat} {cs : List Value} {bs : List UInt8} {T t e u s : TypeId} {x y lo hi : Operand} {kl kh : IntKind} {l h : Int}
theorem r_mv {x : Operand} {v : Value} (hx : ev ρ x = v) : (execOp (ev ρ) ⟨dd, .move x, ty, pos, af, gg⟩).run P w = .ok (.value (v)) w := by simp [execOp, hx]
theorem r_asg {x : Operand} {v : Value} (hx : ev ρ x = v) : (execOp (ev ρ) ⟨dd, .assign x, ty, pos, af, gg⟩).run P w = .ok (.value (v)) w := by simp [execOp, hx]
theorem r_pkT {c x y : Operand} {v : Value} (hc : ev ρ c = .bool true) (hx : ev ρ x = v) : (execOp (ev ρ) ⟨dd, .pick c x y, ty, pos, af, gg⟩).run P w = .ok (.value (v)) w := by simp [execOp, hc, hx, asBool]
theorem r_pkF {c x y : Operand} {v : Value} (hc : ev ρ c = .bool false) (hy : ev ρ y = v) : (execOp (ev ρ) ⟨dd, .pick c x y, ty, pos, af, gg⟩).run P w = .ok (.value (v)) w := by simp [execOp, hc, hy, asBool]
theorem r_unot {t : TypeId} {x : Operand} {b : Bool} (hx : ev ρ x = .bool b) : (execOp (ev ρ) ⟨dd, .unOp .not t x, ty, pos, af, gg⟩).run P w = .ok (.value ((.bool (!b)))) w := by simp [execOp, hx, Op.unary]
theorem r_eqlB {t u : TypeId} {x y : Operand} {a b : Bool} (hx : ev ρ x = .bool a) (hy : ev ρ y = .bool b) (hu : P.underlying t = some .bool) : (execOp (ev ρ) ⟨dd, .binOp .eql t x y u, ty, pos, af, gg⟩).run P w = .ok (.value ((.bool (decide (a = b))))) w := by
  have : (a == b) = decide (a = b) := by cases a <;> cases b <;> rfl
  have hr : (Op.equal t (.bool a) (.bool b)).run P w = .ok (a == b) w := by
   unfold Op.equal
   rw [show Op.maxDepth = 9999 + 1 from rfl, Op.equalIn]
   simp [run_underlying hu]
  simp only [execOp, hx, hy, eqGuard_at_bool, binOp]
  simp [hr, this]
theorem r_cvi {s t : TypeId} {x : Operand} {j k : IntKind} {a c : Int} (hx : ev ρ x = .int j a) (hs : (P.underlying s).isSome = true) (ht : P.underlying t = some (.int k)) (hc : k.wrap a = c) : (execOp (ev ρ) ⟨dd, .convert s t x, ty, pos, af, gg⟩).run P w = .ok (.value ((.int k c))) w := by
  subst hc
  obtain ⟨u, hu⟩ := Option.isSome_iff_exists.1 hs
  simp [execOp, hx, convert, run_underlying hu, run_underlying ht, Conv.intToInt]
theorem r_nc {x : Operand} {a : Addr} (hx : ev ρ x = .pointer (some a)) : (execOp (ev ρ) ⟨dd, .nilCheck x, ty, pos, af, gg⟩).run P w = .ok (.value ((.pointer (some a)))) w := by simp [execOp, hx]
theorem r_nci {x : Operand} {t : TypeId} {v : Value} (hx : ev ρ x = .iface t v) : (execOp (ev ρ) ⟨dd, .nilCheck x, ty, pos, af, gg⟩).run P w = .ok (.value ((.iface t v))) w := by simp [execOp, hx]
theorem r_fa {s f o b k : Nat} {x : Operand} (hx : ev ρ x = .pointer (some ⟨b, o, none⟩)) (hf : fieldOff P s f = some k) : (execOp (ev ρ) ⟨dd, .fieldAddr s x f, ty, pos, af, gg⟩).run P w = .ok (.value ((.pointer (some ⟨b, o + k, none⟩)))) w := by simp [execOp, hx, fieldOff_run hf, Addr.add_lit]
theorem r_ia {t e : TypeId} {x i : Operand} {b o len cap sz : Nat} {j : IntKind} {z : Int} (hx : ev ρ x = .slice (some ⟨b, o, none⟩) len cap) (hi : ev ρ i = .int j z) (hu : P.underlying t = some (.slice e)) (hs : sizeB P e sz = true) (hz : 0 ≤ z ∧ z < len) : (execOp (ev ρ) ⟨dd, .indexAddr t x i, ty, pos, af, gg⟩).run P w = .ok (.value ((.pointer (some ⟨b, o + z.toNat * sz, none⟩)))) w := by simp [execOp, hx, hi, Instr.indexAt, asIntOf, run_underlying hu, hz.1, hz.2, run_sizeOf hs, Addr.add_lit]
theorem r_iA {t e : TypeId} {x i : Operand} {ad : Addr} {len cap : Nat} {j : IntKind} {z : Int} (hx : ev ρ x = .slice (some ad) len cap) (hi : ev ρ i = .int j z) (hu : P.underlying t = some (.slice e)) (hs : sizeB P e 1 = true) (hz : 0 ≤ z ∧ z < len) : (execOp (ev ρ) ⟨dd, .indexAddr t x i, ty, pos, af, gg⟩).run P w = .ok (.value ((.pointer (some (ad.add z.toNat))))) w := by simp [execOp, hx, hi, Instr.indexAt, asIntOf, run_underlying hu, hz.1, hz.2, run_sizeOf hs]
theorem r_iy {t e : TypeId} {x i : Operand} {b o len sz : Nat} {j : IntKind} {z : Int} (hx : ev ρ x = .pointer (some ⟨b, o, none⟩)) (hi : ev ρ i = .int j z) (hu : P.underlying t = some (.array len e)) (hs : sizeB P e sz = true) (hz : 0 ≤ z ∧ z < len) : (execOp (ev ρ) ⟨dd, .indexAddr t x i, ty, pos, af, gg⟩).run P w = .ok (.value ((.pointer (some ⟨b, o + z.toNat * sz, none⟩)))) w := by simp [execOp, hx, hi, Instr.indexAt, asIntOf, run_underlying hu, hz.1, hz.2, run_sizeOf hs, Addr.add_lit, Instr.sureAddr]
theorem r_ld {fr : Nat × Nat} {v : Value} (H : SH w0 S w L) (hx : ev ρ x = .pointer (some ⟨b, o, none⟩)) [Look L b (.cells cs.toArray T fr)] (hs : scalarB P t = true) (hv : cs[o]? = some v) : (execOp (ev ρ) ⟨dd, .load t x, ty, pos, af, gg⟩).run P w = .ok (.value (v)) w := by
  have := H.look (b := b) (o := .cells cs.toArray T fr)
  simp [execOp, hx, Instr.loadAt, Instr.sureAddr, run_loadVar_scalar hs ((cell_at this).trans hv)]
theorem r_lc {ad : Addr} {v : Value} (hx : ev ρ x = .pointer (some ad)) (hc : w.cell? ad = some v) (hs : scalarB P t = true) : (execOp (ev ρ) ⟨dd, .load t x, ty, pos, af, gg⟩).run P w = .ok (.value (v)) w := by simp [execOp, hx, Instr.loadAt, Instr.sureAddr, run_loadVar_scalar hs hc]
theorem r_la {fr : Nat × Nat} {m : Nat} {vs : List Value} (H : SH w0 S w L) (hx : ev ρ x = .pointer (some ⟨b, o, none⟩)) [Look L b (.cells cs.toArray T fr)] (hs : aggB P t m = true) (hm : vs.length = m) (hv : (cs.drop o).take m = vs) : (execOp (ev ρ) ⟨dd, .load t x, ty, pos, af, gg⟩).run P w = .ok (.value ((.agg vs.toArray))) w := by
  have := H.look (b := b) (o := .cells cs.toArray T fr)
  have hl := run_loadVar_agg (P := P) (w := w) (a := ⟨b, o, none⟩) hs hm (fun j v hj => by
   rw [Addr.add_lit, cell_at this]
   rw [← hv, List.getElem?_take, List.getElem?_drop] at hj
   split at hj
   ·exact hj
   ·cases hj)
  simp [execOp, hx, Instr.loadAt, Instr.sureAddr, hl]
theorem r_lnS {t e : TypeId} {x : Operand} {A : Option Addr} {l c : Nat} (hx : ev ρ x = .slice A l c) (hu : P.underlying t = some (.slice e)) : (execOp (ev ρ) ⟨dd, .call { callee := .builtin .len, args := #[x], argTypes := #[t] }, ty, pos, af, gg⟩).run P w = .ok (.value ((.int .i64 (l : Int)))) w := by simp [execOp, resolve, invoke, builtin, hx, Builtin.len_, run_underlying hu, goInt]
theorem r_lnT {t : TypeId} {x : Operand} {s : ByteArray} (hx : ev ρ x = .string s) (hu : P.underlying t = some .string) : (execOp (ev ρ) ⟨dd, .call { callee := .builtin .len, args := #[x], argTypes := #[t] }, ty, pos, af, gg⟩).run P w = .ok (.value ((.int .i64 (s.size : Int)))) w := by simp [execOp, resolve, invoke, builtin, hx, Builtin.len_, run_underlying hu, goInt]
theorem r_shlK {t u : TypeId} {x y : Operand} {k yk : IntKind} {a b c p : Int} {s : Nat} (hx : ev ρ x = .int k a) (hy : ev ρ y = .int yk b) (hs : min b.toNat k.bits = s) (hb : 0 ≤ b ∧ (2 : Int) ^ s = p) (hc : k.wrap (a * p) = c) : (execOp (ev ρ) ⟨dd, .binOp .shl t x y u, ty, pos, af, gg⟩).run P w = .ok (.value ((.int k c))) w := r_shl hx hy hb.1 (by rw [hs, hb.2, hc])
theorem r_shrK {t u : TypeId} {x y : Operand} {k yk : IntKind} {a b c p : Int} {s : Nat} (hx : ev ρ x = .int k a) (hy : ev ρ y = .int yk b) (hs : min b.toNat k.bits = s) (hb : 0 ≤ b ∧ (2 : Int) ^ s = p) (hc : a / p = c) : (execOp (ev ρ) ⟨dd, .binOp .shr t x y u, ty, pos, af, gg⟩).run P w = .ok (.value ((.int k c))) w := r_shr hx hy hb.1 (by rw [hs, hb.2, hc])
theorem r_ucompl {t : TypeId} {x : Operand} {k : IntKind} {a c : Int} (hx : ev ρ x = .int k a) (hc : bits .xor k (if k.signed then -1 else k.max) a = c) : (execOp (ev ρ) ⟨dd, .unOp .xor t x, ty, pos, af, gg⟩).run P w = .ok (.value ((.int k c))) w := by subst hc; simp [execOp, hx, Op.unary, intBits_xor]
theorem r_eqlT {t u : TypeId} {x y : Operand} {a b : List UInt8} (hx : ev ρ x = .string (str a)) (hy : ev ρ y = .string (str b)) : (execOp (ev ρ) ⟨dd, .binOp .eql t x y u, ty, pos, af, gg⟩).run P w = .ok (.value ((.bool (decide (a = b))))) w := by
  have : (a == b) = decide (a = b) := by rw [Bool.eq_iff_iff]; simp
  simp [execOp, hx, hy, eqGuard_at_string, binOp_string_eql, str, this]
theorem r_ldb {fr : Nat × Nat} (H : SH w0 S w L) (hx : ev ρ x = .pointer (some ⟨b, o, none⟩)) [Look L b (.cells (Bs bs).toArray T fr)] (hs : scalarB P t = true) (ho : o < bs.length) : (execOp (ev ρ) ⟨dd, .load t x, ty, pos, af, gg⟩).run P w = .ok (.value ((.int .u8 ((bs.getD o 0).toNat : Int)))) w := r_ld (cs := Bs bs) H hx hs (Bs_get ho)
theorem r_ixS {t : TypeId} {x i : Operand} {bs : List UInt8} {j : IntKind} {z : Int} (hx : ev ρ x = .string (str bs)) (hi : ev ρ i = .int j z) (hu : P.underlying t = some .string) (hz : 0 ≤ z ∧ z < bs.length) : (execOp (ev ρ) ⟨dd, .index t x i, ty, pos, af, gg⟩).run P w = .ok (.value ((.int .u8 ((bs.getD z.toNat 0).toNat : Int)))) w := by
  have hl : z.toNat < bs.length := by omega
  have hlt : z.toNat < (str bs).size := by simpa using hl
  have hg : (str bs)[z.toNat]? = some (bs.getD z.toNat 0) := by
   rw [ByteArray.getElem?_lt' _ _ hlt]
   simp [str, ByteArray.getElem_eq_getElem_data, List.getD_eq_getElem?_getD, hl]
  simp [execOp, hx, hi, Instr.index, asIntOf, run_underlying hu, hz.1, hg]
theorem r_sllh (hx : ev ρ x = .slice (some ⟨b, o, none⟩) len cap) (h1 : ev ρ lo = .int kl l) (h2 : ev ρ hi = .int kh h) (hu : P.underlying t = some (.slice e)) (hs : sizeB P e sz = true) (hb : 0 ≤ l ∧ l ≤ h ∧ h ≤ cap ∧ l < cap) : (execOp (ev ρ) ⟨dd, .slice t x (some lo) (some hi) none, ty, pos, af, gg⟩).run P w = .ok (.value ((.slice (some ⟨b, o + l.toNat * sz, none⟩) (h.toNat - l.toNat) (cap - l.toNat)))) w := by
  obtain ⟨j, rfl⟩ := Int.eq_ofNat_of_zero_le (show 0 ≤ h by omega)
  have e1 : (j : Int) ≤ (cap : Int) := hb.2.2.1
  have e2 : ¬ cap = l.toNat := by omega
  have e3 : j ≤ cap := by omega
  simp [execOp, hx, h1, h2, Instr.sliceAt, run_underlying hu, Instr.slice, Instr.sliceBounds, Instr.sliceBound, asIntOf, hb.1, hb.2.1, e3, run_sizeOf hs, e2, Addr.add_lit]
theorem r_slh (hx : ev ρ x = .slice A len cap) (h2 : ev ρ hi = .int kh h) (hu : P.underlying t = some (.slice e)) (hs : sizeB P e sz = true) (hb : 0 ≤ h ∧ h ≤ cap) : (execOp (ev ρ) ⟨dd, .slice t x none (some hi) none, ty, pos, af, gg⟩).run P w = .ok (.value ((.slice A h.toNat cap))) w := by
  have e0 : ∀ a : Addr, a.add 0 = a := fun a => by simp [Addr.add]
  cases A <;> simp [execOp, hx, h2, Instr.sliceAt, run_underlying hu, Instr.slice, Instr.sliceBounds, Instr.sliceBound, asIntOf, hb.1, hb.2, run_sizeOf hs, e0]
theorem r_sll (hx : ev ρ x = .slice (some ⟨b, o, none⟩) len cap) (h1 : ev ρ lo = .int kl l) (hu : P.underlying t = some (.slice e)) (hs : sizeB P e sz = true) (hb : 0 ≤ l ∧ l ≤ len ∧ l < cap) : (execOp (ev ρ) ⟨dd, .slice t x (some lo) none none, ty, pos, af, gg⟩).run P w = .ok (.value ((.slice (some ⟨b, o + l.toNat * sz, none⟩) (len - l.toNat) (cap - l.toNat)))) w := by
  have e2 : ¬ cap = l.toNat := by omega
  simp [execOp, hx, h1, Instr.sliceAt, run_underlying hu, Instr.slice, Instr.sliceBounds, Instr.sliceBound, asIntOf, hb.1, hb.2.1, run_sizeOf hs, e2, Addr.add_lit]
theorem r_slTl (hx : ev ρ x = .string (str bs)) (h1 : ev ρ lo = .int kl l) (hu : P.underlying t = some .string) (hb : 0 ≤ l ∧ l ≤ bs.length) : (execOp (ev ρ) ⟨dd, .slice t x (some lo) none none, ty, pos, af, gg⟩).run P w = .ok (.value ((.string (str (bs.drop l.toNat))))) w := by
  simp [execOp, hx, h1, Instr.sliceAt, run_underlying hu, Instr.slice, Instr.sliceBounds, Instr.sliceBound, asIntOf, hb.1, hb.2, str_part]
theorem r_eqlI0 {t u : TypeId} {ms : Array (String × TypeId)} {x : Operand} (hx : ev ρ x = .nilIface) (hu : P.underlying t = some (.interface ms)) : (execOp (ev ρ) ⟨dd, .binOp .eql t x (.const .nilIface) u, ty, pos, af, gg⟩).run P w = .ok (.value ((.bool true))) w := by
  have e : ev ρ (.const .nilIface) = .nilIface := rfl
  simp only [execOp, hx, e, eqGuard_nil_constR, binOp]
  simp [run_eqI_nn hu]
theorem r_eqlI1 {t u s : TypeId} {v : Value} {ms : Array (String × TypeId)} {x : Operand} (hx : ev ρ x = .iface s v) (hu : P.underlying t = some (.interface ms)) : (execOp (ev ρ) ⟨dd, .binOp .eql t x (.const .nilIface) u, ty, pos, af, gg⟩).run P w = .ok (.value ((.bool false))) w := by
  have e : ev ρ (.const .nilIface) = .nilIface := rfl
  simp only [execOp, hx, e, eqGuard_at_iface, binOp]
  simp [run_eqI_in hu]
theorem r_iB {t e : TypeId} {x i : Operand} {ad : Addr} {len cap sz : Nat} {j : IntKind} {z : Int} (hx : ev ρ x = .slice (some ad) len cap) (hi : ev ρ i = .int j z) (hu : P.underlying t = some (.slice e)) (hs : sizeB P e sz = true) (hz : 0 ≤ z ∧ z < len) : (execOp (ev ρ) ⟨dd, .indexAddr t x i, ty, pos, af, gg⟩).run P w = .ok (.value ((.pointer (some (ad.add (z.toNat * sz)))))) w := by simp [execOp, hx, hi, Instr.indexAt, asIntOf, run_underlying hu, hz.1, hz.2, run_sizeOf hs]
theorem r_lw {t : TypeId} {x : Operand} {ad : Addr} {m : Nat} {vs : List Value} (hx : ev ρ x = .pointer (some ad)) (hs : aggB P t m = true) (hm : vs.length = m) (hc : ∀ j v, vs[j]? = some v → w.cell? (ad.add j) = some v) : (execOp (ev ρ) ⟨dd, .load t x, ty, pos, af, gg⟩).run P w = .ok (.value ((.agg vs.toArray))) w := by
  have hl := run_loadVar_agg (P := P) (w := w) (a := ad) hs hm hc
  simp [execOp, hx, Instr.loadAt, Instr.sureAddr, hl]
end
end
end Go.Proofs.YthcaejaaalkglaaDoor.X
/- Results that lie in cells. -/
namespace Go.Proofs.YthcaejaaalkglaaDoor.X
open Go Go.RowKit
set_option linter.unusedVariables false
def resOne (P : Program) (ρ : Env) (w : World) : ResultVar → Value → Prop
 | .tmp t, v => v = ρ t
 | .cell t ty, v => ∃ (ad : Addr) (cs : List Value), ρ t = .pointer (some ad) ∧ aggB P ty cs.length = true ∧ (∀ j u, cs[j]? = some u → w.cell? (ad.add j) = some u) ∧ v = .agg cs.toArray
def resAll (P : Program) (ρ : Env) (w : World) : List ResultVar → List Value → Prop
 | [], [] => True
 | r :: rs, v :: vs => resOne P ρ w r v ∧ resAll P ρ w rs vs
 | _, _ => False
def resVal : List Value → Value
 | [v] => v
 | vs => .tuple vs.toArray
def finR (P : Program) (rs : List ResultVar) (φ : Value → World → Prop) : Post
 | .normal, ρ, w => ∃ vs, resAll P ρ w rs vs ∧ φ (resVal vs) w
 | .ret, ρ, w => ∃ vs, resAll P ρ w rs vs ∧ φ (resVal vs) w
 | _, _, _ => False
def resSem (a : Act) : ResultVar → Sem Value
 | .tmp t => pure (a.tmps.getD t undef)
 | .cell d t => do loadVar t (← asAddr (a.tmps.getD d undef))
theorem resOne_run {P : Program} {a : Act} {w : World} {r : ResultVar} {v : Value} (h : resOne P (envOf a) w r v) : (resSem a r).run P w = .ok v w := by
 cases r with
 | tmp t => simp only [resOne, envOf] at h; subst h; simp [resSem]
 | cell d t =>
  obtain ⟨ad, cs, h1, h2, h3, rfl⟩ := h
  simp only [envOf] at h1
  have hl := run_loadVar_agg (P := P) (w := w) (a := ad) h2 rfl h3
  simp only [resSem, h1]
  simp [asAddr, hl]
theorem resAll_mapM {P : Program} {a : Act} {w : World} : ∀ {rs : List ResultVar} {vs : List Value}, resAll P (envOf a) w rs vs → (rs.mapM (resSem a)).run P w = .ok vs w
 | [], [], _ => by simp
 | [], _ :: _, h => h.elim
 | _ :: _, [], h => h.elim
 | r :: rs, v :: vs, h => by
  have h1 := resOne_run h.1
  have h2 := resAll_mapM h.2
  simp only [List.mapM_cons, Sem.run_bind, h1, Result.andThen_ok, h2, Sem.run_pure]
theorem results_run {P : Program} {fn : Func} {a : Act} {w : World} {rs : List ResultVar} {vs : List Value} (hf : fn.results = rs.toArray) (h : resAll P (envOf a) w rs vs) : (results fn a.tmps).run P w = .ok (resVal vs) w := by
 have hm := resAll_mapM h
 have e : results fn a.tmps = (do
   let vs ← fn.results.mapM (resSem a)
   pure (if h : vs.size = 1 then vs[0] else .tuple vs)) := by
  unfold results
  congr 2
 rw [e, hf, List.mapM_toArray]
 simp only [Sem.run_bind, Sem.run_map, hm, Result.andThen_ok]
 cases vs with
 | nil => simp [resVal]
 | cons v vs =>
  cases vs with
  | nil => simp [resVal]
  | cons u vs => simp [resVal]
theorem enterR {P : Program} {f : FuncId} {fn : Func} {c : Code} {l : List Value} {w : World} {φ : Value → World → Prop} {n : Nat} (rs : List ResultVar)
  (hf : P.funcs[f]? = some fn) (hb : fn.body = some c) (hn : fn.ntmps = n) (hl : Nat.ble l.length n = true) (hr : fn.results = rs.toArray)
  (h : cw P n c (finR P rs φ) (argEnv l) w) : Calls P f l.toArray w (Ret φ) := by
 have hl' : l.length ≤ n := Nat.le_of_ble_eq_true hl
 refine calls_of_wp hf hb ?_
 subst hn
 have he : envOf { tmps := l.toArray ++ Array.replicate (fn.ntmps - l.toArray.size) undef, defers := [] } = argEnv l := by
  funext t
  simp only [envOf, argEnv, Array.getD_eq_getD_getElem?, Array.getElem?_append, List.size_toArray, List.getElem?_toArray, List.getD_eq_getElem?_getD]
  by_cases ht : t < l.length
  ·rw [if_pos ht]
  ·rw [if_neg ht, List.getElem?_eq_none (by omega)]
   simp [Array.getElem?_replicate]
   split <;> rfl
 refine wp_mono (h _ rfl (by simp; omega) he) ?_
 rintro e a w ⟨h1, h2, h3⟩
 cases e with
 | normal => obtain ⟨vs, hv, hφ⟩ := h3; exact ⟨h1, _, results_run hr hv, hφ⟩
 | ret => obtain ⟨vs, hv, hφ⟩ := h3; exact ⟨h1, _, results_run hr hv, hφ⟩
 | _ => exact h3.elim
theorem finR_r {P : Program} {rs : List ResultVar} {φ : Value → World → Prop} {ρ : Env} {w : World} (h : ∃ vs, resAll P ρ w rs vs ∧ φ (resVal vs) w) : finR P rs φ .ret ρ w := h
theorem finC {P : Program} {t : Nat} {ty : TypeId} {ρ : Env} {w : World} {b : Nat} {cs : List Value} {T : TypeId} {fr : Nat × Nat} (ht : ρ t = .pointer (some ⟨b, 0, none⟩)) (hc : w.heap[b]? = some (.cells cs.toArray T fr)) (ha : aggB P ty cs.length = true) : resOne P ρ w (.cell t ty) (.agg cs.toArray) :=
 ⟨_, cs, ht, ha, fun j u hu => by rw [Addr.add_lit, cell_at hc]; simpa using hu, rfl⟩
end Go.Proofs.YthcaejaaalkglaaDoor.X
/- The laws of single operations: maps that are written out, methods of interface values. -/
namespace Go.Proofs.YthcaejaaalkglaaDoor.X
set_option linter.unusedVariables false
open Go Go.RowKit
section steps
variable {P : Program} {n : Nat} {ops : Array Oper} {Q : Post} {rest : List Oper} {ρ : Env} {w : World} {ty : TypeId} {pos : String} {af : Array Edge} {d : Nat}
variable {w0 : World} {S : List Nat} {L L' : List Ent}
theorem mc {recv : Operand} {name : String} {xs : List Operand} {ts : Array TypeId} {t : TypeId} {f : FuncId} {rv : Value} {φ : Value → World → Prop} (hr : ev ρ recv = .iface t rv) (hm : ∀ v w, (method (P.types.size + Made.depth) t v name).run P w = .ok (f, v) w) (hf : callable P f = true) (hc : Calls P f (rv :: xs.map (ev ρ)).toArray w (Ret φ)) (hn : Nat.blt d n = true)
  (k : ∀ v w', φ v w' → wl P n ops Q rest (upd ρ d v) w') : wl P n ops Q (⟨some d, .call { callee := .invoke recv name, args := xs.toArray, argTypes := ts }, ty, pos, af, none⟩ :: rest) ρ w :=
 enterC rfl rfl hn (by
  have e2 : #[rv] ++ (xs.map (ev ρ)).toArray = (rv :: xs.map (ev ρ)).toArray := by simp
  have e3 : (callMethod (.iface t rv) name (xs.map (ev ρ)).toArray).run P w = .ok (.enter f (rv :: xs.map (ev ρ)).toArray) w := by
   simp [callMethod, hm, run_callFunc hf, run_program]
  have e4 : List.take xs.length (List.map (ev ρ) xs) = List.map (ev ρ) xs := List.take_of_length_le (by simp)
  simp only [execOp, resolve, invoke, hr, Sem.run_bind, Sem.run_pure, Result.andThen_ok, List.map_toArray]
  simp [e3, e4]) hc k
end steps
end Go.Proofs.YthcaejaaalkglaaDoor.X
/- The laws of single operations in tidy forms: what comes out is said by the one who uses them. -/
namespace Go.Proofs.YthcaejaaalkglaaDoor.X
set_option linter.unusedVariables false
open Go Go.RowKit
section steps
variable {P : Program} {n : Nat} {ops : Array Oper} {Q : Post} {rest : List Oper} {ρ : Env} {w : World} {ty : TypeId} {pos : String} {af : Array Edge} {d : Nat}
variable {t e : TypeId} {x lo hi : Operand} {b o len cap sz o' m' c' : Nat} {kl kh : IntKind} {l h : Int}
theorem sllhN (o' m' c' : Nat) (hx : ev ρ x = .slice (some ⟨b, o, none⟩) len cap) (h1 : ev ρ lo = .int kl l) (h2 : ev ρ hi = .int kh h) (hu : P.underlying t = some (.slice e)) (hs : sizeB P e sz = true) (hb : 0 ≤ l ∧ l ≤ h ∧ h ≤ cap ∧ l < cap) (ho : o + l.toNat * sz = o' ∧ h.toNat - l.toNat = m' ∧ cap - l.toNat = c') (hn : Nat.blt d n = true)
  (kk : wl P n ops Q rest (upd ρ d (.slice (some ⟨b, o', none⟩) m' c')) w) : wl P n ops Q (⟨some d, .slice t x (some lo) (some hi) none, ty, pos, af, none⟩ :: rest) ρ w :=
 sllh hx h1 h2 hu hs hb hn (by rw [ho.1, ho.2.1, ho.2.2]; exact kk)
theorem sllN (o' m' c' : Nat) (hx : ev ρ x = .slice (some ⟨b, o, none⟩) len cap) (h1 : ev ρ lo = .int kl l) (hu : P.underlying t = some (.slice e)) (hs : sizeB P e sz = true) (hb : 0 ≤ l ∧ l ≤ len ∧ l < cap) (ho : o + l.toNat * sz = o' ∧ len - l.toNat = m' ∧ cap - l.toNat = c') (hn : Nat.blt d n = true)
  (kk : wl P n ops Q rest (upd ρ d (.slice (some ⟨b, o', none⟩) m' c')) w) : wl P n ops Q (⟨some d, .slice t x (some lo) none none, ty, pos, af, none⟩ :: rest) ρ w :=
 sll hx h1 hu hs hb hn (by rw [ho.1, ho.2.1, ho.2.2]; exact kk)
theorem slhN {A : Option Addr} (m' : Nat) (hx : ev ρ x = .slice A len cap) (h2 : ev ρ hi = .int kh h) (hu : P.underlying t = some (.slice e)) (hs : sizeB P e sz = true) (hb : 0 ≤ h ∧ h ≤ cap) (ho : h.toNat = m') (hn : Nat.blt d n = true)
  (kk : wl P n ops Q rest (upd ρ d (.slice A m' cap)) w) : wl P n ops Q (⟨some d, .slice t x none (some hi) none, ty, pos, af, none⟩ :: rest) ρ w :=
 slh hx h2 hu hs hb hn (by rw [ho]; exact kk)
theorem iaN {i : Operand} {j : IntKind} {z : Int} (o' : Nat) (hx : ev ρ x = .slice (some ⟨b, o, none⟩) len cap) (hi : ev ρ i = .int j z) (hu : P.underlying t = some (.slice e)) (hs : sizeB P e sz = true) (hz : 0 ≤ z ∧ z < len) (ho : o + z.toNat * sz = o') (hn : Nat.blt d n = true) (kk : wl P n ops Q rest (upd ρ d (.pointer (some ⟨b, o', none⟩))) w) : wl P n ops Q (⟨some d, .indexAddr t x i, ty, pos, af, none⟩ :: rest) ρ w :=
 ia hx hi hu hs hz hn (by rw [ho]; exact kk)
theorem iyN {i : Operand} {j : IntKind} {z : Int} (o' : Nat) (hx : ev ρ x = .pointer (some ⟨b, o, none⟩)) (hi : ev ρ i = .int j z) (hu : P.underlying t = some (.array len e)) (hs : sizeB P e sz = true) (hz : 0 ≤ z ∧ z < len) (ho : o + z.toNat * sz = o') (hn : Nat.blt d n = true) (kk : wl P n ops Q rest (upd ρ d (.pointer (some ⟨b, o', none⟩))) w) : wl P n ops Q (⟨some d, .indexAddr t x i, ty, pos, af, none⟩ :: rest) ρ w :=
 iy hx hi hu hs hz hn (by rw [ho]; exact kk)
theorem ldbN {w0 : World} {S : List Nat} {L : List Ent} {T : TypeId} {fr : Nat × Nat} {bs : List UInt8} (u : UInt8) (H : SH w0 S w L) (hx : ev ρ x = .pointer (some ⟨b, o, none⟩)) [Look L b (.cells (Bs bs).toArray T fr)] (hs : scalarB P t = true) (ho : bs[o]? = some u) (hn : Nat.blt d n = true) (kk : wl P n ops Q rest (upd ρ d (.int .u8 (u.toNat : Int))) w) : wl P n ops Q (⟨some d, .load t x, ty, pos, af, none⟩ :: rest) ρ w :=
 ld (cs := Bs bs) (v := .int .u8 (u.toNat : Int)) H hx hs (by simp [Bs, u8v, ho]) hn kk
theorem asgN {v v' : Value} (hx : ev ρ x = v) (he : v = v') (hn : Nat.blt d n = true) (k : wl P n ops Q rest (upd ρ d v') w) : wl P n ops Q (⟨some d, .assign x, ty, pos, af, none⟩ :: rest) ρ w :=
 asg hx hn (by rw [he]; exact k)
theorem slY (hx : ev ρ x = .pointer (some ⟨b, o, none⟩)) (hu : P.underlying t = some (.array len e)) (hs : sizeB P e sz = true) (hb : 0 < len) (hn : Nat.blt d n = true)
  (kk : wl P n ops Q rest (upd ρ d (.slice (some ⟨b, o, none⟩) len len)) w) : wl P n ops Q (⟨some d, .slice t x none none none, ty, pos, af, none⟩ :: rest) ρ w :=
 val rfl rfl hn (by
  simp [execOp, hx, Instr.sliceAt, run_underlying hu, Instr.sureAddr, Instr.sliceBounds, run_sizeOf hs, Addr.add]) kk
theorem r_faG {s f k : Nat} {x : Operand} {ad : Addr} {dd : Option Nat} {gg : Option (Nat × Bool)} (hx : ev ρ x = .pointer (some ad)) (hf : fieldOff P s f = some k) : (execOp (ev ρ) ⟨dd, .fieldAddr s x f, ty, pos, af, gg⟩).run P w = .ok (.value (.pointer (some (ad.add k)))) w := by simp [execOp, hx, fieldOff_run hf]
theorem iBN {i : Operand} {ad : Addr} {j : IntKind} {z : Int} (ad' : Addr) (hx : ev ρ x = .slice (some ad) len cap) (hi : ev ρ i = .int j z) (hu : P.underlying t = some (.slice e)) (hs : sizeB P e sz = true) (hz : 0 ≤ z ∧ z < len) (ho : ad.add (z.toNat * sz) = ad') (hn : Nat.blt d n = true) (kk : wl P n ops Q rest (upd ρ d (.pointer (some ad'))) w) : wl P n ops Q (⟨some d, .indexAddr t x i, ty, pos, af, none⟩ :: rest) ρ w :=
 iB hx hi hu hs hz hn (by rw [ho]; exact kk)
def isIf : Value → Bool
 | .iface _ _ => true
 | _ => false
def Ifc (e : Value) : Prop := e = .nilIface ∨ ∃ t v, e = .iface t v
theorem neqIG {t u : TypeId} {ms : Array (String × TypeId)} {x : Operand} {e : Value} (hx : ev ρ x = e) (hu : P.underlying t = some (.interface ms)) (he : Ifc e) (hn : Nat.blt d n = true) (kk : wl P n ops Q rest (upd ρ d (.bool (isIf e))) w) : wl P n ops Q (⟨some d, .binOp .neq t x (.const .nilIface) u, ty, pos, af, none⟩ :: rest) ρ w := by
 rcases he with rfl | ⟨s, v, rfl⟩
 ·exact neqI0 hx hu hn kk
 ·exact neqI1 hx hu hn kk
theorem eqlIG {t u : TypeId} {ms : Array (String × TypeId)} {x : Operand} {e : Value} (hx : ev ρ x = e) (hu : P.underlying t = some (.interface ms)) (he : Ifc e) (hn : Nat.blt d n = true) (kk : wl P n ops Q rest (upd ρ d (.bool (!isIf e))) w) : wl P n ops Q (⟨some d, .binOp .eql t x (.const .nilIface) u, ty, pos, af, none⟩ :: rest) ρ w := by
 rcases he with rfl | ⟨s, v, rfl⟩
 ·exact eqlI0 hx hu hn kk
 ·exact eqlI1 hx hu hn kk
section
variable {dd : Option Nat} {gg : Option (Nat × Bool)}
theorem r_sllhN (o' m' c' : Nat) (hx : ev ρ x = .slice (some ⟨b, o, none⟩) len cap) (h1 : ev ρ lo = .int kl l) (h2 : ev ρ hi = .int kh h) (hu : P.underlying t = some (.slice e)) (hs : sizeB P e sz = true) (hb : 0 ≤ l ∧ l ≤ h ∧ h ≤ cap ∧ l < cap) (ho : o + l.toNat * sz = o' ∧ h.toNat - l.toNat = m' ∧ cap - l.toNat = c') : (execOp (ev ρ) ⟨dd, .slice t x (some lo) (some hi) none, ty, pos, af, gg⟩).run P w = .ok (.value (.slice (some ⟨b, o', none⟩) m' c')) w := by
 rw [← ho.1, ← ho.2.1, ← ho.2.2]; exact r_sllh hx h1 h2 hu hs hb
theorem r_sllN (o' m' c' : Nat) (hx : ev ρ x = .slice (some ⟨b, o, none⟩) len cap) (h1 : ev ρ lo = .int kl l) (hu : P.underlying t = some (.slice e)) (hs : sizeB P e sz = true) (hb : 0 ≤ l ∧ l ≤ len ∧ l < cap) (ho : o + l.toNat * sz = o' ∧ len - l.toNat = m' ∧ cap - l.toNat = c') : (execOp (ev ρ) ⟨dd, .slice t x (some lo) none none, ty, pos, af, gg⟩).run P w = .ok (.value (.slice (some ⟨b, o', none⟩) m' c')) w := by
 rw [← ho.1, ← ho.2.1, ← ho.2.2]; exact r_sll hx h1 hu hs hb
theorem r_slhN {A : Option Addr} (m' : Nat) (hx : ev ρ x = .slice A len cap) (h2 : ev ρ hi = .int kh h) (hu : P.underlying t = some (.slice e)) (hs : sizeB P e sz = true) (hb : 0 ≤ h ∧ h ≤ cap) (ho : h.toNat = m') : (execOp (ev ρ) ⟨dd, .slice t x none (some hi) none, ty, pos, af, gg⟩).run P w = .ok (.value (.slice A m' cap)) w := by
 rw [← ho]; exact r_slh hx h2 hu hs hb
theorem r_iaN {i : Operand} {j : IntKind} {z : Int} (o' : Nat) (hx : ev ρ x = .slice (some ⟨b, o, none⟩) len cap) (hi : ev ρ i = .int j z) (hu : P.underlying t = some (.slice e)) (hs : sizeB P e sz = true) (hz : 0 ≤ z ∧ z < len) (ho : o + z.toNat * sz = o') : (execOp (ev ρ) ⟨dd, .indexAddr t x i, ty, pos, af, gg⟩).run P w = .ok (.value (.pointer (some ⟨b, o', none⟩))) w := by
 rw [← ho]; exact r_ia hx hi hu hs hz
theorem r_iyN {i : Operand} {j : IntKind} {z : Int} (o' : Nat) (hx : ev ρ x = .pointer (some ⟨b, o, none⟩)) (hi : ev ρ i = .int j z) (hu : P.underlying t = some (.array len e)) (hs : sizeB P e sz = true) (hz : 0 ≤ z ∧ z < len) (ho : o + z.toNat * sz = o') : (execOp (ev ρ) ⟨dd, .indexAddr t x i, ty, pos, af, gg⟩).run P w = .ok (.value (.pointer (some ⟨b, o', none⟩))) w := by
 rw [← ho]; exact r_iy hx hi hu hs hz
theorem r_slY (hx : ev ρ x = .pointer (some ⟨b, o, none⟩)) (hu : P.underlying t = some (.array len e)) (hs : sizeB P e sz = true) (hb : 0 < len) : (execOp (ev ρ) ⟨dd, .slice t x none none none, ty, pos, af, gg⟩).run P w = .ok (.value (.slice (some ⟨b, o, none⟩) len len)) w := by
 simp [execOp, hx, Instr.sliceAt, run_underlying hu, Instr.sureAddr, Instr.sliceBounds, run_sizeOf hs, Addr.add]
end
end steps
end Go.Proofs.YthcaejaaalkglaaDoor.X
/- Arrays of numbers compared. -/
namespace Go.Proofs.YthcaejaaalkglaaDoor.X
open Go
set_option linter.unusedVariables false
set_option linter.unusedSimpArgs false
theorem run_eq_ints {P : Program} {w : World} {t e : TypeId} {k : IntKind} {n : Nat} {xs1 xs2 : List Int} (hu : P.underlying t = some (.array n e)) (he : P.underlying e = some (.int k)) (hs : sizeB P e 1 = true) (hsc : scalarB P e = true) (ha : xs1.length = n) (hb : xs2.length = n) :
  (Op.equal t (.agg (xs1.map (Value.int k)).toArray) (.agg (xs2.map (Value.int k)).toArray)).run P w = .ok (decide (xs1 = xs2)) w := by
 unfold Op.equal
 rw [show Op.maxDepth = 9998 + 1 + 1 from rfl, Op.equalIn]
 have h1 : ∀ (xs : Array Value) (i : Nat) (v : Value), xs[i]? = some v → (part e xs i).run P w = .ok v w := fun xs i v h => by
  simp [part, run_isAgg_scalar hsc, h]
 have hg : ∀ (l : List Int) (i : Nat) (h : i < l.length), (l.map (Value.int k)).toArray[i]? = some (.int k l[i]) := fun l i h => by simp [h]
 simp only [Sem.run_bind, run_underlying hu, Result.andThen_ok, run_sizeOf hs, Std.Legacy.Range.forIn_eq_forIn_range', Std.Legacy.Range.size]
 simp only [Nat.sub_zero, Nat.add_sub_cancel, Nat.div_one]
 have hP : ∃ s, List.range' 0 n 1 = List.range' s (List.range' 0 n 1).length 1 ∧ s + (List.range' 0 n 1).length = n ∧ xs1.take s = xs2.take s := ⟨0, by simp, by simp, by simp⟩
 generalize List.range' 0 n 1 = l at hP ⊢
 induction l with
 | nil =>
  obtain ⟨s, h2, h3, h4⟩ := hP
  have : xs1 = xs2 := by
   simp at h3
   rw [List.take_of_length_le (by omega), List.take_of_length_le (by omega)] at h4; exact h4
  simp [this]
 | cons i l ih =>
  obtain ⟨s, h2, h3, h4⟩ := hP
  simp only [List.length_cons, List.range'_succ, List.cons.injEq] at h2 h3
  obtain ⟨rfl, h2⟩ := h2
  have hsa : i < xs1.length := by omega
  have hsb : i < xs2.length := by omega
  simp only [List.forIn_cons, Sem.run_bind, Nat.mul_one, h1 _ _ _ (hg xs1 i hsa), h1 _ _ _ (hg xs2 i hsb), Result.andThen_ok, run_equalIn_int w _ e k k _ _ he]
  by_cases hc : xs1[i] = xs2[i]
  ·have ht' : xs1.take (i + 1) = xs2.take (i + 1) := by
    rw [List.take_add_one, List.take_add_one, h4]; simp [hsa, hsb, hc]
   have := ih ⟨i + 1, by simpa using h2, by omega, ht'⟩
   simp only [Nat.mul_one] at this
   simpa [hc] using this
  ·have hne : xs1 ≠ xs2 := fun e => hc (by subst e; rfl)
   simp [hc, hne]
section steps
variable {P : Program} {n : Nat} {ops : Array Oper} {Q : Post} {rest : List Oper} {ρ : Env} {w : World} {ty : TypeId} {pos : String} {af : Array Edge} {d : Nat}
theorem r_eqlAr {t u e : TypeId} {x y : Operand} {k : IntKind} {m : Nat} {xs1 xs2 : List Int} {dd : Option Nat} {gg : Option (Nat × Bool)} (hx : ev ρ x = .agg (xs1.map (Value.int k)).toArray) (hy : ev ρ y = .agg (xs2.map (Value.int k)).toArray) (hg : P.eqGuardType P.depth t = false) (hu : P.underlying t = some (.array m e)) (he : P.underlying e = some (.int k)) (hs : sizeB P e 1 = true) (hsc : scalarB P e = true) (ha : xs1.length = m) (hb : xs2.length = m) : (execOp (ev ρ) ⟨dd, .binOp .eql t x y u, ty, pos, af, gg⟩).run P w = .ok (.value (.bool (decide (xs1 = xs2)))) w := by
 have h := run_eqGuard_agg (P := P) w .eql t x y (xs1.map (Value.int k)).toArray (xs2.map (Value.int k)).toArray hg
 have h2 := run_eq_ints (w := w) hu he hs hsc ha hb
 have e2 : (binOp .eql t (.agg (xs1.map (Value.int k)).toArray) (.agg (xs2.map (Value.int k)).toArray)).run P w = .ok (.bool (decide (xs1 = xs2))) w := by
  simp only [binOp]
  simp [h2]
 simp only [execOp, hx, hy, Sem.run_bind, h, Result.andThen_ok, e2, Sem.run_pure, Sem.run_map]
theorem Bs_ints (xs : List UInt8) : Bs xs = (xs.map fun b => (b.toNat : Int)).map (Value.int .u8) := by simp [Bs, u8v, Function.comp_def]
theorem ints_inj {xs ys : List UInt8} : (xs.map fun b => (b.toNat : Int)) = (ys.map fun b => (b.toNat : Int)) ↔ xs = ys := by
 constructor
 ·intro h
  refine List.map_inj_right (f := fun b : UInt8 => (b.toNat : Int)) (fun a b e => ?_) |>.1 h
  exact UInt8.toNat.inj (by omega)
 ·rintro rfl; rfl
theorem r_eqlBs {t u e : TypeId} {x y : Operand} {m : Nat} {xs ys : List UInt8} {dd : Option Nat} {gg : Option (Nat × Bool)} (hx : ev ρ x = .agg (Bs xs).toArray) (hy : ev ρ y = .agg (Bs ys).toArray) (hg : P.eqGuardType P.depth t = false) (hu : P.underlying t = some (.array m e)) (he : P.underlying e = some (.int .u8)) (hs : sizeB P e 1 = true) (hsc : scalarB P e = true) (ha : xs.length = m) (hb : ys.length = m) : (execOp (ev ρ) ⟨dd, .binOp .eql t x y u, ty, pos, af, gg⟩).run P w = .ok (.value (.bool (decide (xs = ys)))) w := by
 rw [Bs_ints] at hx hy
 rw [r_eqlAr hx hy hg hu he hs hsc (by simpa using ha) (by simpa using hb)]
 congr 3
 exact decide_eq_decide.2 ints_inj
theorem eqlBs {t u e : TypeId} {x y : Operand} {m : Nat} {xs ys : List UInt8} (hx : ev ρ x = .agg (Bs xs).toArray) (hy : ev ρ y = .agg (Bs ys).toArray) (hg : P.eqGuardType P.depth t = false) (hu : P.underlying t = some (.array m e)) (he : P.underlying e = some (.int .u8)) (hs : sizeB P e 1 = true) (hsc : scalarB P e = true) (ha : xs.length = m) (hb : ys.length = m) (hn : Nat.blt d n = true) (kk : wl P n ops Q rest (upd ρ d (.bool (decide (xs = ys)))) w) : wl P n ops Q (⟨some d, .binOp .eql t x y u, ty, pos, af, none⟩ :: rest) ρ w :=
 val rfl rfl hn (r_eqlBs hx hy hg hu he hs hsc ha hb) kk
end steps
end Go.Proofs.YthcaejaaalkglaaDoor.X
/- Numbers of four and eight bytes, the lowest first. -/
namespace Go.Proofs.YthcaejaaalkglaaDoor.X
open Go
set_option linter.unusedVariables false
def leV : List UInt8 → Int
 | [] => 0
 | b :: r => (b.toNat : Int) + 256 * leV r
theorem leV_leB : ∀ (n : Nat) {v : Int}, 0 ≤ v → v < 256 ^ n → leV (leB n v) = v
 | 0, v, h, h2 => by simp at h2; simp [leB, leV]; omega
 | n + 1, v, h, h2 => by
  have h3 : v / 256 < 256 ^ n := by rw [Int.pow_succ] at h2; exact Int.ediv_lt_of_lt_mul (by decide) h2
  have ih := leV_leB n (v := v / 256) (by omega) h3
  have e : ((b8 (v % 256)).toNat : Int) = v % 256 := by
   have := u8v_b8 (a := v % 256) (by omega)
   unfold u8v at this
   simpa using this
  rw [leB, leV, ih, e]; omega
theorem leV_rng : ∀ (bs : List UInt8), 0 ≤ leV bs ∧ leV bs < 256 ^ bs.length
 | [] => by simp [leV]
 | b :: r => by
  have ih := leV_rng r
  have := b.toNat_lt
  rw [leV, List.length_cons, Int.pow_succ]; omega
theorem bor_u32 {x y : Nat} (hx : x < 4294967296) (hy : y < 4294967296) : bits .or .u32 (x : Int) (y : Int) = ((x ||| y : Nat) : Int) := by
 have e : bits .or .u32 (x : Int) (y : Int) = IntKind.u32.wrap ((BitVec.ofInt 32 (x : Int) ||| BitVec.ofInt 32 (y : Int)).toNat : Int) := rfl
 have hx' : (BitVec.ofInt 32 (x : Int)).toNat = x := by rw [BitVec.toNat_ofInt]; omega
 have hy' : (BitVec.ofInt 32 (y : Int)).toNat = y := by rw [BitVec.toNat_ofInt]; omega
 have hlt : x ||| y < 4294967296 := Nat.or_lt_two_pow (n := 32) hx hy
 rw [e, BitVec.toNat_or, hx', hy', w_u32 (by omega)]
def hexL : List UInt8 := [48, 49, 50, 51, 52, 53, 54, 55, 56, 57, 97, 98, 99, 100, 101, 102]
theorem four_at {cur : List UInt8} {o : Nat} (h : o + 4 ≤ cur.length) : (cur.drop o).take 4 = [cur.getD o 0, cur.getD (o + 1) 0, cur.getD (o + 2) 0, cur.getD (o + 3) 0] := by
 apply List.ext_getElem?
 intro i
 rw [List.getElem?_take]
 match i with
 | 0 => simp [List.getD_eq_getElem?_getD, show o < cur.length by omega]
 | 1 => simp [List.getD_eq_getElem?_getD, show o + 1 < cur.length by omega]
 | 2 => simp [List.getD_eq_getElem?_getD, show o + 2 < cur.length by omega]
 | 3 => simp [List.getD_eq_getElem?_getD, show o + 3 < cur.length by omega]
 | i + 4 => simp; omega
theorem or_shift {x y k : Nat} (h : x < 2 ^ k) : x ||| y * 2 ^ k = x + y * 2 ^ k := by
 have := Nat.shiftLeft_add_eq_or_of_lt h y
 rw [Nat.shiftLeft_eq] at this
 rw [Nat.or_comm, ← this, Nat.add_comm]
theorem le32_eq (b0 b1 b2 b3 : UInt8) : bits .or .u32 (bits .or .u32 (bits .or .u32 (b0.toNat : Int) ((b1.toNat : Int) * 256)) ((b2.toNat : Int) * 65536)) ((b3.toNat : Int) * 16777216) = leV [b0, b1, b2, b3] := by
 have h0 := b0.toNat_lt; have h1 := b1.toNat_lt; have h2 := b2.toNat_lt; have h3 := b3.toNat_lt
 have e1 : ((b1.toNat : Int) * 256) = ((b1.toNat * 2 ^ 8 : Nat) : Int) := by omega
 have e2 : ((b2.toNat : Int) * 65536) = ((b2.toNat * 2 ^ 16 : Nat) : Int) := by omega
 have e3 : ((b3.toNat : Int) * 16777216) = ((b3.toNat * 2 ^ 24 : Nat) : Int) := by omega
 rw [e1, e2, e3, bor_u32 (by omega) (by omega), or_shift (by omega), bor_u32 (by omega) (by omega), or_shift (by omega), bor_u32 (by omega) (by omega), or_shift (by omega)]
 simp only [leV]; omega
theorem bor_u64 {x y : Nat} (hx : x < 18446744073709551616) (hy : y < 18446744073709551616) : bits .or .u64 (x : Int) (y : Int) = ((x ||| y : Nat) : Int) := by
 have e : bits .or .u64 (x : Int) (y : Int) = IntKind.u64.wrap ((BitVec.ofInt 64 (x : Int) ||| BitVec.ofInt 64 (y : Int)).toNat : Int) := rfl
 have hx' : (BitVec.ofInt 64 (x : Int)).toNat = x := by rw [BitVec.toNat_ofInt]; omega
 have hy' : (BitVec.ofInt 64 (y : Int)).toNat = y := by rw [BitVec.toNat_ofInt]; omega
 have hlt : x ||| y < 18446744073709551616 := Nat.or_lt_two_pow (n := 64) hx hy
 rw [e, BitVec.toNat_or, hx', hy', w_u64 (by omega)]
theorem or64 {y : Int} {b : Nat} (hy : 0 ≤ y ∧ y ≤ 72057594037927935) (hb : b < 256) : bits .or .u64 (y * 256) (b : Int) = b + 256 * y := by
 obtain ⟨k, rfl⟩ := Int.eq_ofNat_of_zero_le hy.1
 have e : (k : Int) * 256 = ((k * 2 ^ 8 : Nat) : Int) := by omega
 rw [e, bor_u64 (by omega) (by omega), Nat.or_comm, or_shift (by omega)]
 omega
theorem leV_le7 {l : List UInt8} (h : l.length ≤ 7) : 0 ≤ leV l ∧ leV l ≤ 72057594037927935 := by
 have := leV_rng l
 have h2 : ((256 ^ l.length : Nat) : Int) ≤ ((256 ^ 7 : Nat) : Int) := Int.ofNat_le.2 (Nat.pow_le_pow_right (by decide) h)
 rw [Int.natCast_pow, Int.natCast_pow] at h2
 rw [show ((256 : Nat) : Int) = 256 from rfl] at h2
 have h3 : (256 : Int) ^ 7 = 72057594037927936 := by decide
 omega
theorem or64s {x : Int} {b : UInt8} (k : Nat) {K : Int} (hK : K = ((2 ^ k : Nat) : Int)) (hk : k ≤ 56) (hx : 0 ≤ x ∧ x < K) : bits .or .u64 x ((b.toNat : Int) * K) = x + (b.toNat : Int) * K := by
 subst hK
 obtain ⟨y, rfl⟩ := Int.eq_ofNat_of_zero_le hx.1
 have hb := b.toNat_lt
 have h1 : (2 : Nat) ^ k ≤ 2 ^ 56 := Nat.pow_le_pow_right (by decide) hk
 have h2 : y < 2 ^ k := by have := hx.2; exact_mod_cast this
 have h3 : b.toNat * 2 ^ k ≤ 255 * 2 ^ 56 := Nat.mul_le_mul (by omega) h1
 have e : ((b.toNat : Int) * ((2 ^ k : Nat) : Int)) = ((b.toNat * 2 ^ k : Nat) : Int) := by rw [Int.natCast_mul]
 rw [e, bor_u64 (by omega) (by omega), or_shift h2, Int.natCast_add]
theorem le64_eq (b0 b1 b2 b3 b4 b5 b6 b7 : UInt8) : bits .or .u64 (bits .or .u64 (bits .or .u64 (bits .or .u64 (bits .or .u64 (bits .or .u64 (bits .or .u64 (b0.toNat : Int) ((b1.toNat : Int) * 256)) ((b2.toNat : Int) * 65536)) ((b3.toNat : Int) * 16777216)) ((b4.toNat : Int) * 4294967296)) ((b5.toNat : Int) * 1099511627776)) ((b6.toNat : Int) * 281474976710656)) ((b7.toNat : Int) * 72057594037927936) = leV [b0, b1, b2, b3, b4, b5, b6, b7] := by
 have h0 := b0.toNat_lt; have h1 := b1.toNat_lt; have h2 := b2.toNat_lt; have h3 := b3.toNat_lt; have h4 := b4.toNat_lt; have h5 := b5.toNat_lt; have h6 := b6.toNat_lt; have h7 := b7.toNat_lt
 rw [or64s (K := 256) 8 (by decide) (by decide) (by omega), or64s (K := 65536) 16 (by decide) (by decide) (by omega), or64s (K := 16777216) 24 (by decide) (by decide) (by omega), or64s (K := 4294967296) 32 (by decide) (by decide) (by omega), or64s (K := 1099511627776) 40 (by decide) (by decide) (by omega), or64s (K := 281474976710656) 48 (by decide) (by decide) (by omega), or64s (K := 72057594037927936) 56 (by decide) (by decide) (by omega)]
 simp only [leV]; omega
theorem bor_u16 {x y : Nat} (hx : x < 65536) (hy : y < 65536) : bits .or .u16 (x : Int) (y : Int) = ((x ||| y : Nat) : Int) := by
 have e : bits .or .u16 (x : Int) (y : Int) = IntKind.u16.wrap ((BitVec.ofInt 16 (x : Int) ||| BitVec.ofInt 16 (y : Int)).toNat : Int) := rfl
 have hx' : (BitVec.ofInt 16 (x : Int)).toNat = x := by rw [BitVec.toNat_ofInt]; omega
 have hy' : (BitVec.ofInt 16 (y : Int)).toNat = y := by rw [BitVec.toNat_ofInt]; omega
 have hlt : x ||| y < 65536 := Nat.or_lt_two_pow (n := 16) hx hy
 rw [e, BitVec.toNat_or, hx', hy', w_u16 (by omega)]
theorem le16_eq (b0 b1 : UInt8) : bits .or .u16 (b0.toNat : Int) ((b1.toNat : Int) * 256) = leV [b0, b1] := by
 have h0 := b0.toNat_lt; have h1 := b1.toNat_lt
 have e1 : ((b1.toNat : Int) * 256) = ((b1.toNat * 2 ^ 8 : Nat) : Int) := by omega
 rw [e1, bor_u16 (by omega) (by omega), or_shift (by omega)]
 simp only [leV]; omega
theorem two_at {cur : List UInt8} {o : Nat} (h : o + 2 ≤ cur.length) : (cur.drop o).take 2 = [cur.getD o 0, cur.getD (o + 1) 0] := by
 refine List.ext_getElem? fun i => ?_
 match i with
 | 0 => simp [List.getD_eq_getElem?_getD, show o < cur.length by omega]
 | 1 => simp [List.getD_eq_getElem?_getD, show o + 1 < cur.length by omega]
 | i + 2 => simp; omega
theorem eight_at {cur : List UInt8} {o : Nat} (h : o + 8 ≤ cur.length) : (cur.drop o).take 8 = [cur.getD o 0, cur.getD (o + 1) 0, cur.getD (o + 2) 0, cur.getD (o + 3) 0, cur.getD (o + 4) 0, cur.getD (o + 5) 0, cur.getD (o + 6) 0, cur.getD (o + 7) 0] := by
 have := four_at (cur := cur) (o := o) (by omega)
 have h2 := four_at (cur := cur) (o := o + 4) (by omega)
 rw [show 8 = 4 + 4 from rfl, List.take_add, this, List.drop_drop, h2]
 rfl
theorem leV_down {ds : List UInt8} {p n m : Nat} (h : p + n ≤ ds.length) (hm : m < n) : leV ((ds.drop (p + (n - (m + 1)))).take (m + 1)) = ((ds.getD (p + (n - (m + 1))) 0).toNat : Int) + 256 * leV ((ds.drop (p + (n - m))).take m) := by
 rw [List.drop_eq_getElem_cons (by omega), List.take_succ_cons, leV, show p + (n - (m + 1)) + 1 = p + (n - m) by omega]
 simp [List.getD_eq_getElem?_getD, show p + (n - (m + 1)) < ds.length by omega]
end Go.Proofs.YthcaejaaalkglaaDoor.X
