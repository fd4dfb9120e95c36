/- Bytes put into a row, numbers as bytes. -/
import Derived.Test.YtgmkjndmjnbahaaDoorSteps4
namespace Go.Proofs.YtgmkjndmjnbahaaDoor.X
open Go
set_option linter.unusedVariables false
/-- The row with some bytes put at o. -/
def pAt (cur : List UInt8) (o : Nat) (es : List UInt8) : List UInt8 := cur.take o ++ es ++ cur.drop (o + es.length)
theorem pAt_len {cur es : List UInt8} {o : Nat} (h : o + es.length ≤ cur.length) : (pAt cur o es).length = cur.length := by
  unfold pAt; simp; omega
theorem pAt_nil (cur : List UInt8) (o : Nat) : pAt cur o [] = cur := by simp [pAt]
theorem pAt_set {cur es : List UInt8} {o : Nat} {x : UInt8} (h : o + es.length < cur.length) : (pAt cur o es).set (o + es.length) x = pAt cur o (es ++ [x]) := by
  unfold pAt
  have h1 : (cur.take o ++ es).length = o + es.length := by simp; omega
  rw [List.set_append_right _ _ (by rw [h1]; exact Nat.le_refl _), h1, Nat.sub_self, List.drop_eq_getElem_cons h, List.set_cons_zero, List.length_append]
  simp [Nat.add_assoc]
theorem pAt_pAt {cur es fs : List UInt8} {o p : Nat} (hp : p = o + es.length) (h : p + fs.length ≤ cur.length) : pAt (pAt cur o es) p fs = pAt cur o (es ++ fs) := by
  subst hp
  unfold pAt
  have h1 : (cur.take o ++ es).length = o + es.length := by simp; omega
  rw [List.take_append_of_le_length (by omega), List.take_of_length_le (by omega), List.drop_append, h1]
  rw [List.drop_of_length_le (l := cur.take o ++ es) (by omega)]
  simp only [List.nil_append, List.drop_drop, List.append_assoc, List.length_append]
  congr 4
  omega
theorem pAt_get {cur es : List UInt8} {o : Nat} (h : o + es.length ≤ cur.length) : ((pAt cur o es).drop o).take es.length = es := by
  unfold pAt
  have h1 : (cur.take o).length = o := by simp; omega
  rw [List.append_assoc, List.drop_append, h1, List.drop_of_length_le (by omega), Nat.sub_self]
  simp
theorem set_first {cur : List UInt8} {o : Nat} {x : UInt8} (h : o < cur.length) : cur.set o x = pAt cur o [x] := by
  have := pAt_set (cur := cur) (es := []) (o := o) (x := x) (by simpa using h)
  rw [pAt_nil] at this
  simpa using this
theorem set_again {cur : List UInt8} {o : Nat} {x y : UInt8} (h : o < cur.length) : (pAt cur o [x]).set o y = pAt cur o [y] := by
  rw [← set_first h, List.set_set, set_first h]
theorem set_eq {X : List UInt8} {a o : Nat} {x y : UInt8} (h : a = o) (hx : x = y) : X.set a x = X.set o y := by subst h hx; rfl
theorem set_set_eq {X : List UInt8} {a a' o : Nat} {x y z : UInt8} (h : a = o) (h' : a' = o) (hx : y = z) : (X.set a x).set a' y = X.set o z := by subst h h' hx; rw [List.set_set]
theorem sh_bytes {w0 w : World} {S : List Nat} {b : Nat} {T : TypeId} {L : List Ent} {cur cur' : List UInt8} {m : Bool} {fr : Nat × Nat} (H : SH w0 S w (⟨b, .cells (Bs cur).toArray T fr, m⟩ :: L)) (e : cur = cur') : SH w0 S w (⟨b, .cells (Bs cur').toArray T fr, m⟩ :: L) := e ▸ H
/-- A number's bytes, the lowest one first. -/
def leB : Nat → Int → List UInt8
  | 0, _ => []
  | n + 1, v => b8 (v % 256) :: leB n (v / 256)
theorem leB_len : ∀ (n : Nat) (v : Int), (leB n v).length = n
  | 0, _ => rfl
  | n + 1, v => by simp [leB, leB_len n]
theorem ediv_pow (v : Int) (n : Nat) : v / 256 ^ (n + 1) = v / 256 / 256 ^ n := by
  rw [Int.pow_succ, Int.mul_comm, Int.ediv_ediv, if_neg (by omega), Int.sub_zero]
theorem leB_snoc : ∀ (n : Nat) (v : Int), leB (n + 1) v = leB n v ++ [b8 (v / 256 ^ n % 256)]
  | 0, v => by simp [leB]
  | n + 1, v => by
    rw [leB, leB_snoc n (v / 256)]
    rw [show v / 256 ^ (n + 1) = v / 256 / 256 ^ n from ediv_pow v n]
    rfl
theorem b8_inj {x y : Int} (hx : 0 ≤ x ∧ x ≤ 255) (hy : 0 ≤ y ∧ y ≤ 255) (h : b8 x = b8 y) : x = y := by
  have h1 := u8v_b8 hx; have h2 := u8v_b8 hy
  unfold u8v at h1 h2
  rw [h] at h1
  have := h1.symm.trans h2
  simpa using this
theorem leB_inj : ∀ (n : Nat) {x y : Int}, 0 ≤ x → x < 256 ^ n → 0 ≤ y → y < 256 ^ n → leB n x = leB n y → x = y
  | 0, x, y, hx, hx', hy, hy', h => by simp at hx' hy'; omega
  | n + 1, x, y, hx, hx', hy, hy', h => by
    simp only [leB, List.cons.injEq] at h
    have h1 := b8_inj (x := x % 256) (y := y % 256) (by omega) (by omega) h.1
    have e : ∀ z : Int, 0 ≤ z → z < 256 ^ (n + 1) → z / 256 < 256 ^ n := fun z h0 h => by
      rw [Int.pow_succ] at h
      exact Int.ediv_lt_of_lt_mul (by decide) h
    have h2 := leB_inj n (by omega) (e x hx hx') (by omega) (e y hy hy') h.2
    omega
/-- Bytes set one behind the other. -/
def setsL : List UInt8 → Nat → List UInt8 → List UInt8
  | X, _, [] => X
  | X, o, x :: r => setsL (X.set o x) (o + 1) r
theorem setsL_pAt : ∀ (es : List UInt8) (cur fs : List UInt8) (o : Nat), o + fs.length + es.length ≤ cur.length → setsL (pAt cur o fs) (o + fs.length) es = pAt cur o (fs ++ es)
  | [], cur, fs, o, h => by simp [setsL]
  | x :: r, cur, fs, o, h => by
    simp only [List.length_cons] at h
    rw [setsL, pAt_set (by omega)]
    have := setsL_pAt r cur (fs ++ [x]) o (by simp; omega)
    rw [List.length_append, List.length_singleton, ← Nat.add_assoc] at this
    rw [this]; simp
theorem setsL_eq {cur es : List UInt8} {o : Nat} (h : o + es.length ≤ cur.length) : setsL cur o es = pAt cur o es := by
  have := setsL_pAt es cur [] o (by simpa using h)
  simpa [pAt_nil] using this
theorem pAt_all {cur es : List UInt8} (h : es.length = cur.length) : pAt cur 0 es = es := by
  unfold pAt
  rw [h]; simp
theorem pAt_length (cur : List UInt8) (o : Nat) (es : List UInt8) : (pAt cur o es).length = max cur.length (min o cur.length + es.length) := by
  unfold pAt
  simp only [List.length_append, List.length_take, List.length_drop]
  omega
end Go.Proofs.YtgmkjndmjnbahaaDoor.X
