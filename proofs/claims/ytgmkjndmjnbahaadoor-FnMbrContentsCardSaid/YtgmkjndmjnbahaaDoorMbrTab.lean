/- A table of a master boot record in memory, and as plain data. -/
import Derived.Test.YtgmkjndmjnbahaaDoorPtrRow
import Derived.Test.YtgmkjndmjnbahaaDoorMbrRow
import Derived.Test.YtgmkjndmjnbahaaDoorLePure
namespace Go.Proofs.YtgmkjndmjnbahaaDoor.X
set_option linter.unusedVariables false
open Go Go.RowKit
/-- An entry as it stands in a sector. -/
def mpAt (cur : List UInt8) (o k : Nat) : MP :=
  ⟨k, decide (((cur.getD (o + 0) 0).toNat : Int) = 128), (cur.getD (o + 4) 0).toNat, leV ((cur.drop (o + 8)).take 4), leV ((cur.drop (o + 12)).take 4), (cur.getD (o + 3) 0).toNat, (cur.getD (o + 1) 0).toNat, (cur.getD (o + 2) 0).toNat, (cur.getD (o + 7) 0).toNat, (cur.getD (o + 5) 0).toNat, (cur.getD (o + 6) 0).toNat⟩
def mpsOf (cur : List UInt8) : List MP := [mpAt cur 446 1, mpAt cur 462 2, mpAt cur 478 3, mpAt cur 494 4]
theorem mpsOf_get {cur : List UInt8} {i : Nat} (h : i < 4) : (mpsOf cur)[i]? = some (mpAt cur (446 + 16 * i) (i + 1)) := by
  match i, h with
  | 0, _ => rfl
  | 1, _ => rfl
  | 2, _ => rfl
  | 3, _ => rfl
/-- The sector's last two bytes. -/
def sigB (cur : List UInt8) : Bool := decide ((cur.drop 510).take 2 = [85, 170])
/-- May each of the four first bytes be read? -/
def flagsB (cur : List UInt8) : Prop := ∀ i, i < 4 → ((cur.getD (446 + 16 * i) 0).toNat : Int) = 0 ∨ ((cur.getD (446 + 16 * i) 0).toNat : Int) = 128
/-- A partition's cells. -/
def ptCells (q : MP) (u : List UInt8) : List Value := q.cells ++ [.int .i64 512, .int .i64 512, .string (str u)]
/-- The row of a table's partitions. -/
def rowOk (cur : List UInt8) (l : PL) : Prop := ∀ i x, l[i]? = some x → ∃ u, x.2 = ptCells (mpAt cur (446 + 16 * i) (i + 1)) u
theorem rowOk_nil (cur : List UInt8) : rowOk cur [] := fun i x h => by simp at h
theorem rowOk_snoc {cur : List UInt8} {l : PL} {p : Nat} {cs u : List _} (h : rowOk cur l) (e : cs = ptCells (mpAt cur (446 + 16 * l.length) (l.length + 1)) u) : rowOk cur (l ++ [(p, cs)]) := by
  intro i x hx
  by_cases hi : i < l.length
  · rw [List.getElem?_append_left hi] at hx; exact h i x hx
  · rw [List.getElem?_append_right (by omega)] at hx
    have : i - l.length = 0 := by have := (List.getElem?_eq_some_iff.1 hx).1; simp at this; omega
    rw [this] at hx
    simp at hx
    subst hx
    obtain rfl : i = l.length := by omega
    exact ⟨u, e⟩
/-- The table that a call has made. -/
def MadeTab (TT TP PT : TypeId) (w w' : World) (cur : List UInt8) (v : Value) : Prop :=
  ∃ (t r cap : Nat) (junk : List Value) (l : PL) (uu : List UInt8), v = .pointer (some ⟨t, 0, none⟩) ∧ l.length = 4 ∧ rowOk cur l ∧
    SH w [] w' (⟨t, .cells [.slice (some ⟨r, 0, none⟩) 4 cap, .int .i64 512, .int .i64 512, .string (str uu)].toArray TT (0, 0), true⟩ :: ⟨r, .cells (ptrs l ++ junk).toArray TP (0, 0), true⟩ :: ents PT l)
theorem mpAt_ok (cur : List UInt8) (o k : Nat) (h : k ≤ 1000) (hl : o + 16 ≤ cur.length) : (mpAt cur o k).ok := by
  have p4 : (256 : Int) ^ 4 = 4294967296 := by decide
  have h1 := leV_rng ((cur.drop (o + 8)).take 4)
  have h2 := leV_rng ((cur.drop (o + 12)).take 4)
  have e1 : ((cur.drop (o + 8)).take 4).length = 4 := by simp; omega
  have e2 : ((cur.drop (o + 12)).take 4).length = 4 := by simp; omega
  rw [e1] at h1; rw [e2] at h2
  have r := fun i => u8_lt (cur.getD i 0)
  refine ⟨?_, ?_, ?_, ?_, ?_, ?_, ?_, ?_, ?_, ?_⟩ <;> simp only [mpAt] <;> first | omega | exact ⟨by omega, r _⟩
/-- What was laid is read. -/
theorem mpAt_mbr {ds : List UInt8} {ps : List MP} {i : Nat} {p : MP} (k : Nat) (hp : ps[i]? = some p) (h4 : ps.length = 4) (hd : 512 ≤ ds.length) (ok : p.ok) : mpAt (mbrB ds ps) (446 + 16 * i) k = { p with ix := k } := by
  have hb := mbr_get hp h4 hd
  have g : ∀ j, j < 16 → (mbrB ds ps).getD (446 + 16 * i + j) 0 = p.bytes.getD j 0 := fun j hj => by rw [drop_get hj, hb]
  have f : ∀ j, j + 4 ≤ 16 → ((mbrB ds ps).drop (446 + 16 * i + j)).take 4 = (p.bytes.drop j).take 4 := fun j hj => by rw [drop_four hj, hb]
  have p4 : (256 : Int) ^ 4 = 4294967296 := by decide
  unfold mpAt
  rw [g 0 (by decide), g 4 (by decide), g 3 (by decide), g 1 (by decide), g 2 (by decide), g 7 (by decide), g 5 (by decide), g 6 (by decide), f 8 (by decide), f 12 (by decide)]
  have e0 : p.bytes.getD 0 0 = b8 (if p.bt then 128 else 0) := rfl
  have e1 : p.bytes.getD 1 0 = b8 p.c1 := rfl
  have e2 : p.bytes.getD 2 0 = b8 p.c2 := rfl
  have e3 : p.bytes.getD 3 0 = b8 p.c0 := rfl
  have e4 : p.bytes.getD 4 0 = b8 p.ty := rfl
  have e5 : p.bytes.getD 5 0 = b8 p.c4 := rfl
  have e6 : p.bytes.getD 6 0 = b8 p.c5 := rfl
  have e7 : p.bytes.getD 7 0 = b8 p.c3 := rfl
  have e8 : (p.bytes.drop 8).take 4 = leB 4 p.st := rfl
  have e12 : (p.bytes.drop 12).take 4 = leB 4 p.sz := rfl
  rw [e0, e1, e2, e3, e4, e5, e6, e7, e8, e12, b8_nat ok.ty, b8_nat ok.c0, b8_nat ok.c1, b8_nat ok.c2, b8_nat ok.c3, b8_nat ok.c4, b8_nat ok.c5]
  rw [leV_leB 4 ok.st.1 (by rw [p4]; have := ok.st; omega), leV_leB 4 ok.sz.1 (by rw [p4]; have := ok.sz; omega)]
  have eb : decide (((b8 (if p.bt then 128 else 0)).toNat : Int) = 128) = p.bt := by cases h : p.bt <;> simp [b8]
  rw [eb]
theorem mbr_flags {ds : List UInt8} {ps : List MP} (h4 : ps.length = 4) (hd : 512 ≤ ds.length) : flagsB (mbrB ds ps) := by
  intro i hi
  obtain ⟨p, hp⟩ : ∃ p, ps[i]? = some p := ⟨_, List.getElem?_eq_getElem (by omega)⟩
  have hb := mbr_get hp h4 hd
  have : (mbrB ds ps).getD (446 + 16 * i) 0 = p.bytes.getD 0 0 := by
    have := drop_get (xs := mbrB ds ps) (o := 446 + 16 * i) (k := 0) (by decide)
    rw [hb] at this; exact this
  rw [this]
  have e0 : p.bytes.getD 0 0 = b8 (if p.bt then 128 else 0) := rfl
  rw [e0]
  cases h : p.bt <;> simp [b8]
theorem mbrB_len {ds : List UInt8} {ps : List MP} (h4 : ps.length = 4) (hd : 512 ≤ ds.length) : (mbrB ds ps).length = ds.length := by
  have hl : (ps.flatMap MP.bytes).length = 64 := by rw [flat_len MP.bytes_len, h4]
  unfold mbrB
  exact pAt_len (by simp [hl]; omega)
theorem mbr_sig {ds : List UInt8} {ps : List MP} (h4 : ps.length = 4) (hd : 512 ≤ ds.length) : ((mbrB ds ps).drop 510).take 2 = [85, 170] := by
  have hl : (ps.flatMap MP.bytes).length = 64 := by rw [flat_len MP.bytes_len, h4]
  have h := pAt_get (cur := ds) (o := 446) (es := ps.flatMap MP.bytes ++ [85, 170]) (by simp [hl]; omega)
  have e := congrArg (fun l => (l.drop 64).take 2) h
  simp only [List.drop_take, List.drop_drop, List.take_take] at e
  rw [List.drop_append, hl] at e
  simp only [List.drop_of_length_le (Nat.le_of_eq hl)] at e
  simp [hl] at e
  exact e
theorem getD_take {ds : List UInt8} {i n : Nat} (h : i < n) : (ds.take n).getD i 0 = ds.getD i 0 := by simp [List.getD_eq_getElem?_getD, h]
theorem drop_take_four {ds : List UInt8} {o n k : Nat} (h : o + k ≤ n) : ((ds.take n).drop o).take k = (ds.drop o).take k := by
  rw [List.drop_take, List.take_take, Nat.min_eq_left (by omega)]
theorem mpAt_take {ds : List UInt8} {o k n : Nat} (h : o + 16 ≤ n) : mpAt (ds.take n) o k = mpAt ds o k := by
  unfold mpAt
  rw [getD_take (by omega), getD_take (by omega), getD_take (by omega), getD_take (by omega), getD_take (by omega), getD_take (by omega), getD_take (by omega), getD_take (by omega), drop_take_four (by omega), drop_take_four (by omega)]
theorem mpsOf_take (ds : List UInt8) : mpsOf (ds.take 512) = mpsOf ds := by
  unfold mpsOf
  rw [mpAt_take (by decide), mpAt_take (by decide), mpAt_take (by decide), mpAt_take (by decide)]
theorem flags_take {ds : List UInt8} (h : flagsB ds) : flagsB (ds.take 512) := fun i hi => by
  rw [getD_take (by omega)]; exact h i hi
theorem sig_take (ds : List UInt8) : sigB (ds.take 512) = sigB ds := by
  unfold sigB
  rw [drop_take_four (by decide)]
theorem sigB_mbr {ds : List UInt8} {ps : List MP} (h4 : ps.length = 4) (hd : 512 ≤ ds.length) : sigB (mbrB ds ps) = true := decide_eq_true (mbr_sig h4 hd)
theorem mpAt_pre {ds es : List UInt8} {o k n : Nat} (h : o + 16 ≤ n) (e : ds.take n = es.take n) : mpAt ds o k = mpAt es o k := by
  rw [← mpAt_take (ds := ds) h, e, mpAt_take h]
theorem flags_pre {ds es : List UInt8} (e : ds.take 510 = es.take 510) (h : flagsB es) : flagsB ds := fun i hi => by
  rw [← getD_take (ds := ds) (n := 510) (by omega), e, getD_take (by omega)]; exact h i hi
theorem sig_at {ds : List UInt8} (h : 512 ≤ ds.length) : sigB ds = decide ((((ds.getD 510 0).toNat : Int) = 85) ∧ (((ds.getD 511 0).toNat : Int) = 170)) := by
  unfold sigB
  have e : (ds.drop 510).take 2 = [ds.getD 510 0, ds.getD 511 0] := by
    apply List.ext_getElem?
    intro i
    rw [List.getElem?_take]
    match i with
    | 0 => simp [List.getD_eq_getElem?_getD, show 510 < ds.length by omega]
    | 1 => simp [List.getD_eq_getElem?_getD, show 511 < ds.length by omega]
    | i + 2 => simp; omega
  rw [e]
  refine decide_eq_decide.2 ?_
  simp only [List.cons.injEq, and_true]
  have h1 : ∀ (u : UInt8) (k : Nat), k < 256 → (u = UInt8.ofNat k ↔ (u.toNat : Int) = k) := fun u k hk => by
    constructor
    · rintro rfl; simp; omega
    · intro h; apply UInt8.toNat.inj; simp; omega
  have a := h1 (ds.getD 510 0) 85 (by decide)
  have b := h1 (ds.getD 511 0) 170 (by decide)
  exact and_congr a b
theorem eqM_ix (p : MP) (k : Int) : eqM { p with ix := k } p = true := by simp [eqM]
theorem RM.elem {w : World} {ad : Addr} {m c i : Nat} {qs : List MP} {q : MP} (h : RM w (some ad) m c qs) (hq : qs[i]? = some q) : ∀ j v, q.cells[j]? = some v → w.cell? ((ad.add (i * 11)).add j) = some v := by
  intro j v hv
  have hg := flat_get MP.cells_len qs i q hq
  have hj : j < 11 := by have := (List.getElem?_eq_some_iff.1 hv).1; rwa [MP.cells_len] at this
  have e : (qs.flatMap MP.cells)[i * 11 + j]? = some v := by
    rw [← hv, ← hg, List.getElem?_take, if_pos hj, List.getElem?_drop]
  obtain ⟨ad', he, hc⟩ := h.at' _ v e
  obtain rfl := Option.some.inj he
  rw [Addr.add_add]; exact hc
theorem RM.keep {w w' : World} {A : Option Addr} {m c : Nat} {qs : List MP} (h : RM w A m c qs) (f : Fr [] w w') : RM w' A m c qs :=
  ⟨h.len, h.cap, h.nil, fun j u hu => let ⟨ad, e, hc⟩ := h.at' j u hu; ⟨ad, e, f.cell hc (by simp)⟩, h.ok⟩
theorem chs_at {fs : List MP} {i : Nat} {f : MP} (h : fs[i]? = some f) : ((fs.flatMap MP.cells).drop (i * 11 + 5)).take 6 = [.int .u8 f.c0, .int .u8 f.c1, .int .u8 f.c2, .int .u8 f.c3, .int .u8 f.c4, .int .u8 f.c5] := by
  have hg := congrArg (List.drop 5) (flat_get MP.cells_len fs i f h)
  rw [List.drop_take, List.drop_drop] at hg
  exact hg
theorem xor_u8 (a b : Int) : 0 ≤ bits .xor .u8 a b ∧ bits .xor .u8 a b ≤ 255 := by
  have e : bits .xor .u8 a b = IntKind.u8.wrap ((BitVec.ofInt IntKind.u8.bits a ^^^ BitVec.ofInt IntKind.u8.bits b).toNat : Int) := rfl
  rw [e, m_u8]; omega
end Go.Proofs.YtgmkjndmjnbahaaDoor.X
