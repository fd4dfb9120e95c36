/- Entries of a master boot record, as plain data. -/
import Derived.Test.YtgmkjndmjnbahaaDoorBytesPure
import Derived.Test.YtgmkjndmjnbahaaDoorShape
namespace Go.Proofs.YtgmkjndmjnbahaaDoor.X
open Go
set_option linter.unusedVariables false
structure MP where
  ix : Int
  bt : Bool
  ty : Int
  st : Int
  sz : Int
  c0 : Int
  c1 : Int
  c2 : Int
  c3 : Int
  c4 : Int
  c5 : Int
def MP.cells (p : MP) : List Value := [.int .i64 p.ix, .bool p.bt, .int .u8 p.ty, .int .u32 p.st, .int .u32 p.sz, .int .u8 p.c0, .int .u8 p.c1, .int .u8 p.c2, .int .u8 p.c3, .int .u8 p.c4, .int .u8 p.c5]
structure MP.ok (p : MP) : Prop where
  ix : -9223372036854775808 ≤ p.ix ∧ p.ix ≤ 9223372036854775807
  ty : 0 ≤ p.ty ∧ p.ty ≤ 255
  st : 0 ≤ p.st ∧ p.st ≤ 4294967295
  sz : 0 ≤ p.sz ∧ p.sz ≤ 4294967295
  c0 : 0 ≤ p.c0 ∧ p.c0 ≤ 255
  c1 : 0 ≤ p.c1 ∧ p.c1 ≤ 255
  c2 : 0 ≤ p.c2 ∧ p.c2 ≤ 255
  c3 : 0 ≤ p.c3 ∧ p.c3 ≤ 255
  c4 : 0 ≤ p.c4 ∧ p.c4 ≤ 255
  c5 : 0 ≤ p.c5 ∧ p.c5 ≤ 255
def MP.zero : MP := ⟨0, false, 0, 0, 0, 0, 0, 0, 0, 0, 0⟩
theorem MP.zero_ok : MP.zero.ok := by constructor <;> decide
def MP.head (p : MP) : List UInt8 := [b8 (if p.bt then 128 else 0), b8 p.c1, b8 p.c2, b8 p.c0, b8 p.ty, b8 p.c4, b8 p.c5, b8 p.c3]
/-- An entry's sixteen bytes. -/
def MP.bytes (p : MP) : List UInt8 := p.head ++ leB 4 p.st ++ leB 4 p.sz
theorem MP.bytes_len (p : MP) : p.bytes.length = 16 := by simp [MP.bytes, MP.head, leB_len]
theorem flat_len {α β : Type} {f : α → List β} {k : Nat} (h : ∀ x, (f x).length = k) : ∀ l : List α, (l.flatMap f).length = l.length * k
  | [] => by simp
  | x :: l => by simp [List.flatMap_cons, h x, flat_len h l, Nat.add_mul]; omega
theorem flat_get {α β : Type} {f : α → List β} {k : Nat} (h : ∀ x, (f x).length = k) : ∀ (l : List α) (i : Nat) (x : α), l[i]? = some x → ((l.flatMap f).drop (i * k)).take k = f x
  | [], i, x, hx => by simp at hx
  | y :: l, 0, x, hx => by
    simp at hx; subst hx
    simp only [List.flatMap_cons, Nat.zero_mul, List.drop_zero]
    rw [List.take_append_of_le_length (by rw [h]; exact Nat.le_refl _), List.take_of_length_le (by rw [h]; exact Nat.le_refl _)]
  | y :: l, i + 1, x, hx => by
    simp only [List.flatMap_cons]
    rw [List.drop_append, List.drop_of_length_le (by rw [h, Nat.add_mul]; omega), h, List.nil_append]
    rw [show (i + 1) * k - k = i * k by rw [Nat.add_mul]; omega]
    exact flat_get h l i x (by simpa using hx)
theorem take_succ_get {α : Type} {l : List α} {i : Nat} {x : α} (h : l[i]? = some x) : l.take (i + 1) = l.take i ++ [x] := by
  rw [List.take_add_one, h]; rfl
theorem MP.cells_len (p : MP) : p.cells.length = 11 := rfl
/-- The table's bytes. -/
def mbrB (ds : List UInt8) (ps : List MP) : List UInt8 := pAt ds 446 (ps.flatMap MP.bytes ++ [85, 170])
/-- An entry, byte by byte. -/
theorem entry_put {X Y : List UInt8} {o a1 a2 a3 a4 a5 a6 a7 a8 a9 : Nat} {x0 x1 x2 x3 x4 x5 x6 x7 : UInt8} {l1 l2 : List UInt8} (h : o + 16 ≤ X.length) (hY : Y = X.set o x0) (h1 : a1 = o + 1) (h2 : a2 = o + 2) (h3 : a3 = o + 3) (h4 : a4 = o + 4) (h5 : a5 = o + 5) (h6 : a6 = o + 6) (h7 : a7 = o + 7) (h8 : a8 = o + 8) (h9 : a9 = o + 12) (hl1 : l1.length = 4) (hl2 : l2.length = 4) :
    pAt (pAt (((((((Y.set a1 x1).set a2 x2).set a3 x3).set a4 x4).set a5 x5).set a6 x6).set a7 x7) a8 l1) a9 l2 = pAt X o ([x0, x1, x2, x3, x4, x5, x6, x7] ++ l1 ++ l2) := by
  subst hY h1 h2 h3 h4 h5 h6 h7 h8 h9
  rw [set_first (cur := X) (by omega)]
  rw [show o + 1 = o + [x0].length from rfl, pAt_set (by simp; omega)]
  rw [show o + 2 = o + ([x0] ++ [x1]).length from rfl, pAt_set (by simp; omega)]
  rw [show o + 3 = o + ([x0] ++ [x1] ++ [x2]).length from rfl, pAt_set (by simp; omega)]
  rw [show o + 4 = o + ([x0] ++ [x1] ++ [x2] ++ [x3]).length from rfl, pAt_set (by simp; omega)]
  rw [show o + 5 = o + ([x0] ++ [x1] ++ [x2] ++ [x3] ++ [x4]).length from rfl, pAt_set (by simp; omega)]
  rw [show o + 6 = o + ([x0] ++ [x1] ++ [x2] ++ [x3] ++ [x4] ++ [x5]).length from rfl, pAt_set (by simp; omega)]
  rw [show o + 7 = o + ([x0] ++ [x1] ++ [x2] ++ [x3] ++ [x4] ++ [x5] ++ [x6]).length from rfl, pAt_set (by simp; omega)]
  simp only [List.cons_append, List.nil_append]
  rw [pAt_pAt (cur := X) (o := o) (p := o + 8) (by rfl) (by rw [hl1]; omega)]
  rw [pAt_pAt (cur := X) (o := o) (p := o + 12) (by simp [hl1]) (by rw [hl2]; omega)]
  simp
theorem entry_at {ds : List UInt8} {ps : List MP} {i : Nat} {p : MP} (hp : ps[i]? = some p) (h4 : i < 4) (hd : 512 ≤ ds.length) : pAt (pAt ds 446 ((ps.take i).flatMap MP.bytes)) (446 + 16 * i) p.bytes = pAt ds 446 ((ps.take (i + 1)).flatMap MP.bytes) := by
  have hl : ((ps.take i).flatMap MP.bytes).length = i * 16 := by
    rw [flat_len MP.bytes_len]; congr 1; have := (List.getElem?_eq_some_iff.1 hp).1; simp; omega
  rw [pAt_pAt (by rw [hl]; omega) (by rw [MP.bytes_len]; omega), take_succ_get hp]
  simp
theorem mp_ix {ps : List MP} {i : Nat} {p : MP} (hp : ps[i]? = some p) : ((ps.flatMap MP.cells).drop (((i : Nat) : Int).toNat * 11)).take 11 = p.cells := flat_get MP.cells_len ps i p hp
theorem mbr_end {ds : List UInt8} {ps : List MP} (h4 : ps.length = 4) (hd : 512 ≤ ds.length) {i : Nat} (hi : 4 ≤ i) : ((pAt ds 446 ((ps.take i).flatMap MP.bytes)).set 510 85).set 511 170 = mbrB ds ps := by
  rw [List.take_of_length_le (by omega)]
  have hl : (ps.flatMap MP.bytes).length = 64 := by rw [flat_len MP.bytes_len, h4]
  unfold mbrB
  rw [show 510 = 446 + (ps.flatMap MP.bytes).length by omega, pAt_set (by omega)]
  rw [show 511 = 446 + (ps.flatMap MP.bytes ++ [85]).length by simp [hl], pAt_set (by simp [hl]; omega)]
  simp
/-- What PartitionEqualBytes compares. -/
def eqE (xs ys : List UInt8) (o p : Nat) : Bool :=
  decide (((xs.getD o 0).toNat : Int) = (ys.getD p 0).toNat ∧ ((xs.getD (o + 4) 0).toNat : Int) = (ys.getD (p + 4) 0).toNat ∧ (xs.drop (o + 8)).take 4 = (ys.drop (p + 8)).take 4 ∧ (xs.drop (o + 12)).take 4 = (ys.drop (p + 12)).take 4)
def eqM (p q : MP) : Bool := decide (p.bt = q.bt ∧ p.ty = q.ty ∧ p.st = q.st ∧ p.sz = q.sz)
theorem drop_get {xs : List UInt8} {o k : Nat} (hk : k < 16) : xs.getD (o + k) 0 = ((xs.drop o).take 16).getD k 0 := by
  simp [List.getD_eq_getElem?_getD, hk]
theorem drop_four {xs : List UInt8} {o k : Nat} (hk : k + 4 ≤ 16) : (xs.drop (o + k)).take 4 = (((xs.drop o).take 16).drop k).take 4 := by
  rw [List.drop_take, List.take_take, List.drop_drop]
  congr 1; omega
theorem eqE_at (xs ys : List UInt8) (o p : Nat) : eqE xs ys o p = eqE ((xs.drop o).take 16) ((ys.drop p).take 16) 0 0 := by
  unfold eqE
  have h0 : xs.getD o 0 = ((xs.drop o).take 16).getD 0 0 := drop_get (k := 0) (by decide)
  have h1 : ys.getD p 0 = ((ys.drop p).take 16).getD 0 0 := drop_get (k := 0) (by decide)
  rw [h0, h1, drop_get (o := o) (k := 4) (by decide), drop_get (o := p) (k := 4) (by decide), drop_four (o := o) (k := 8) (by decide), drop_four (o := p) (k := 8) (by decide), drop_four (o := o) (k := 12) (by decide), drop_four (o := p) (k := 12) (by decide)]
theorem b8_nat {x : Int} (h : 0 ≤ x ∧ x ≤ 255) : ((b8 x).toNat : Int) = x := by
  have := u8v_b8 h
  unfold u8v at this
  simpa using this
theorem eqE_bytes {p q : MP} (hp : p.ok) (hq : q.ok) : eqE p.bytes q.bytes 0 0 = eqM p q := by
  have e0 : ∀ r : MP, r.bytes.getD 0 0 = b8 (if r.bt then 128 else 0) := fun r => rfl
  have e4 : ∀ r : MP, r.bytes.getD (0 + 4) 0 = b8 r.ty := fun r => rfl
  have e8 : ∀ r : MP, (r.bytes.drop (0 + 8)).take 4 = leB 4 r.st := fun r => rfl
  have e12 : ∀ r : MP, (r.bytes.drop (0 + 12)).take 4 = leB 4 r.sz := fun r => rfl
  unfold eqE eqM
  rw [e0, e0, e4, e4, e8, e8, e12, e12, b8_nat hp.ty, b8_nat hq.ty]
  have p4 : (256 : Int) ^ 4 = 4294967296 := by decide
  refine decide_eq_decide.2 ⟨fun h => ⟨?_, h.2.1, ?_, ?_⟩, fun h => ⟨?_, h.2.1, ?_, ?_⟩⟩
  · have := h.1
    cases hb : p.bt <;> cases hc : q.bt <;> simp [hb, hc, b8] at this ⊢
  · exact leB_inj 4 hp.st.1 (by rw [p4]; have := hp.st; omega) hq.st.1 (by rw [p4]; have := hq.st; omega) h.2.2.1
  · exact leB_inj 4 hp.sz.1 (by rw [p4]; have := hp.sz; omega) hq.sz.1 (by rw [p4]; have := hq.sz; omega) h.2.2.2
  · rw [h.1]
  · rw [h.2.2.1]
  · rw [h.2.2.2]
theorem mbr_get {ds : List UInt8} {ps : List MP} {i : Nat} {p : MP} (hp : ps[i]? = some p) (h4 : ps.length = 4) (hd : 512 ≤ ds.length) : ((mbrB ds ps).drop (446 + 16 * i)).take 16 = p.bytes := by
  have hi := (List.getElem?_eq_some_iff.1 hp).1
  have hl : (ps.flatMap MP.bytes).length = 64 := by rw [flat_len MP.bytes_len, h4]
  have h446 : (ds.take 446).length = 446 := by simp; omega
  unfold mbrB pAt
  rw [List.append_assoc, List.drop_append, h446, List.drop_of_length_le (by omega), List.nil_append, show 446 + 16 * i - 446 = i * 16 by omega, List.append_assoc, List.drop_append_of_le_length (by omega), List.take_append_of_le_length (by rw [List.length_drop]; omega)]
  exact flat_get MP.bytes_len ps i p hp
theorem eqE_mbr {ds es : List UInt8} {ps qs : List MP} {i j : Nat} {p q : MP} (hp : ps[i]? = some p) (h4 : ps.length = 4) (hd : 512 ≤ ds.length) (hq : qs[j]? = some q) (h4' : qs.length = 4) (hd' : 512 ≤ es.length) (op : p.ok) (oq : q.ok) : eqE (mbrB ds ps) (mbrB es qs) (446 + 16 * i) (446 + 16 * j) = eqM p q := by
  rw [eqE_at, mbr_get hp h4 hd, mbr_get hq h4' hd', eqE_bytes op oq]
theorem eqM_self (p : MP) : eqM p p = true := by simp [eqM]
def shpMP : Shp := .agg 11 (.cons 0 1 (.int .i64) (.cons 1 1 .bool (.cons 2 1 (.int .u8) (.cons 3 1 (.int .u32) (.cons 4 1 (.int .u32) (.cons 5 6 (.agg 6 (.cons 0 1 (.int .u8) (.cons 1 1 (.int .u8) (.cons 2 1 (.int .u8) (.cons 3 1 (.int .u8) (.cons 4 1 (.int .u8) (.cons 5 1 (.int .u8) .nil))))))) .nil))))))
theorem wfk {k : IntKind} {n : Int} (h : (Lit.int k n).wf = true) : k.min ≤ n ∧ n ≤ k.max := by simpa [Lit.wf] using h
theorem mp_of {w : World} {cs : List Value} (h : Is w shpMP cs) : ∃ p : MP, cs = p.cells ∧ p.ok := by
  simp only [shpMP, Is, IsAll] at h
  obtain ⟨hl, h⟩ := h
  match cs, hl with
  | [v0, v1, v2, v3, v4, v5, v6, v7, v8, v9, v10], _ =>
    simp [-Bool.exists_bool] at h
    obtain ⟨⟨x0, rfl, h0⟩, ⟨x1, rfl⟩, ⟨x2, rfl, h2⟩, ⟨x3, rfl, h3⟩, ⟨x4, rfl, h4⟩, ⟨x5, rfl, h5⟩, ⟨x6, rfl, h6⟩, ⟨x7, rfl, h7⟩, ⟨x8, rfl, h8⟩, ⟨x9, rfl, h9⟩, ⟨x10, rfl, h10⟩⟩ := h
    refine ⟨⟨x0, x1, x2, x3, x4, x5, x6, x7, x8, x9, x10⟩, rfl, wfk h0, wfk h2, wfk h3, wfk h4, wfk h5, wfk h6, wfk h7, wfk h8, wfk h9, wfk h10⟩
end Go.Proofs.YtgmkjndmjnbahaaDoor.X
