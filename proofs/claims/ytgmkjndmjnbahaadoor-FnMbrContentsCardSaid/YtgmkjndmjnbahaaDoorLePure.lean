/- Numbers of four and eight bytes, the lowest first. -/
import Derived.Test.YtgmkjndmjnbahaaDoorBytesPure
namespace Go.Proofs.YtgmkjndmjnbahaaDoor.X
open Go
set_option linter.unusedVariables false
/-- The number that some bytes say. -/
def leV : List UInt8 → Int
  | [] => 0
  | b :: r => (b.toNat : Int) + 256 * leV r
theorem leV_leB : ∀ (n : Nat) {v : Int}, 0 ≤ v → v < 256 ^ n → leV (leB n v) = v
  | 0, v, h, h2 => by simp at h2; simp [leB, leV]; omega
  | n + 1, v, h, h2 => by
    have h3 : v / 256 < 256 ^ n := by rw [Int.pow_succ] at h2; exact Int.ediv_lt_of_lt_mul (by decide) h2
    have ih := leV_leB n (v := v / 256) (by omega) h3
    have e : ((b8 (v % 256)).toNat : Int) = v % 256 := by
      have := u8v_b8 (a := v % 256) (by omega)
      unfold u8v at this
      simpa using this
    rw [leB, leV, ih, e]; omega
theorem leV_rng : ∀ (bs : List UInt8), 0 ≤ leV bs ∧ leV bs < 256 ^ bs.length
  | [] => by simp [leV]
  | b :: r => by
    have ih := leV_rng r
    have := b.toNat_lt
    rw [leV, List.length_cons, Int.pow_succ]; omega
theorem bor_u32 {x y : Nat} (hx : x < 4294967296) (hy : y < 4294967296) : bits .or .u32 (x : Int) (y : Int) = ((x ||| y : Nat) : Int) := by
  have e : bits .or .u32 (x : Int) (y : Int) = IntKind.u32.wrap ((BitVec.ofInt 32 (x : Int) ||| BitVec.ofInt 32 (y : Int)).toNat : Int) := rfl
  have hx' : (BitVec.ofInt 32 (x : Int)).toNat = x := by rw [BitVec.toNat_ofInt]; omega
  have hy' : (BitVec.ofInt 32 (y : Int)).toNat = y := by rw [BitVec.toNat_ofInt]; omega
  have hlt : x ||| y < 4294967296 := Nat.or_lt_two_pow (n := 32) hx hy
  rw [e, BitVec.toNat_or, hx', hy', w_u32 (by omega)]
theorem mask_rng32 (y : Int) (k : Nat) (m : Int) (hm : (BitVec.ofInt 32 m).toNat = 2 ^ k - 1 ∧ 2 ^ k - 1 ≤ 4294967295 ∧ m = ((2 ^ k - 1 : Nat) : Int)) : 0 ≤ bits .and .u32 y m ∧ bits .and .u32 y m ≤ m := by
  have e : bits .and .u32 y m = IntKind.u32.wrap ((BitVec.ofInt 32 y &&& BitVec.ofInt 32 m).toNat : Int) := rfl
  have h : (BitVec.ofInt 32 y &&& BitVec.ofInt 32 m).toNat ≤ 2 ^ k - 1 := by
    rw [BitVec.toNat_and, hm.1]; exact Nat.and_le_right
  rw [e, w_u32 (by omega)]
  omega
def hexL : List UInt8 := [48, 49, 50, 51, 52, 53, 54, 55, 56, 57, 97, 98, 99, 100, 101, 102]
theorem hex_lt : ∀ i : Fin 16, ((hexL.getD i.val 0).toNat : Int) < 128 := by decide +kernel
theorem hex_lt' {z : Int} (h : 0 ≤ z ∧ z ≤ 15) : 0 ≤ ((hexL.getD z.toNat 0).toNat : Int) ∧ ((hexL.getD z.toNat 0).toNat : Int) < 128 := ⟨by omega, hex_lt ⟨z.toNat, by omega⟩⟩
theorem four_at {cur : List UInt8} {o : Nat} (h : o + 4 ≤ cur.length) : (cur.drop o).take 4 = [cur.getD o 0, cur.getD (o + 1) 0, cur.getD (o + 2) 0, cur.getD (o + 3) 0] := by
  apply List.ext_getElem?
  intro i
  rw [List.getElem?_take]
  match i with
  | 0 => simp [List.getD_eq_getElem?_getD, show o < cur.length by omega]
  | 1 => simp [List.getD_eq_getElem?_getD, show o + 1 < cur.length by omega]
  | 2 => simp [List.getD_eq_getElem?_getD, show o + 2 < cur.length by omega]
  | 3 => simp [List.getD_eq_getElem?_getD, show o + 3 < cur.length by omega]
  | i + 4 => simp; omega
theorem hex_rng {z : Int} {k : Nat} (hz : 0 ≤ z ∧ z < 16 ^ (8 - k)) (hk : k ≤ 8) : 0 ≤ z ∧ z ≤ 4294967295 := by
  have h : (16 : Int) ^ (8 - k) ≤ 16 ^ 8 := by
    have : (16 : Nat) ^ (8 - k) ≤ 16 ^ 8 := Nat.pow_le_pow_right (by decide) (by omega)
    exact_mod_cast this
  have h8 : (16 : Int) ^ 8 = 4294967296 := by decide
  omega
theorem hex_step {z : Int} {s : List UInt8} {c : UInt8} (hz : 0 ≤ z ∧ z < 16 ^ (8 - s.length)) (h : s.length < 8) : 0 ≤ z / 16 ∧ z / 16 < 16 ^ (8 - ([c] ++ s).length) := by
  have e : 8 - s.length = (8 - ([c] ++ s).length) + 1 := by simp; omega
  rw [e, Int.pow_succ] at hz
  exact ⟨by omega, Int.ediv_lt_of_lt_mul (by decide) hz.2⟩
theorem hex_pos {z : Int} {k : Nat} (hz : 0 ≤ z ∧ z < 16 ^ (8 - k)) (hk : k ≤ 8) (h : 0 < z) : k < 8 := by
  rcases Nat.lt_or_ge k 8 with h8 | h8
  · exact h8
  · have : k = 8 := by omega
    subst this
    simp at hz
    omega
theorem or_shift {x y k : Nat} (h : x < 2 ^ k) : x ||| y * 2 ^ k = x + y * 2 ^ k := by
  have := Nat.shiftLeft_add_eq_or_of_lt h y
  rw [Nat.shiftLeft_eq] at this
  rw [Nat.or_comm, ← this, Nat.add_comm]
theorem le32_eq (b0 b1 b2 b3 : UInt8) : bits .or .u32 (bits .or .u32 (bits .or .u32 (b0.toNat : Int) ((b1.toNat : Int) * 256)) ((b2.toNat : Int) * 65536)) ((b3.toNat : Int) * 16777216) = leV [b0, b1, b2, b3] := by
  have h0 := b0.toNat_lt; have h1 := b1.toNat_lt; have h2 := b2.toNat_lt; have h3 := b3.toNat_lt
  have e1 : ((b1.toNat : Int) * 256) = ((b1.toNat * 2 ^ 8 : Nat) : Int) := by omega
  have e2 : ((b2.toNat : Int) * 65536) = ((b2.toNat * 2 ^ 16 : Nat) : Int) := by omega
  have e3 : ((b3.toNat : Int) * 16777216) = ((b3.toNat * 2 ^ 24 : Nat) : Int) := by omega
  rw [e1, e2, e3, bor_u32 (by omega) (by omega), or_shift (by omega), bor_u32 (by omega) (by omega), or_shift (by omega), bor_u32 (by omega) (by omega), or_shift (by omega)]
  simp only [leV]; omega
theorem put4 (cur : List UInt8) (o : Nat) (x : Int) (h : 0 ≤ x ∧ x ≤ 4294967295) : setsL cur o (leB 4 x) = (((cur.set (o + (0 : Int).toNat * 1) (b8 (x % 256))).set (o + (1 : Int).toNat * 1) (b8 (x / 256 % 256))).set (o + (2 : Int).toNat * 1) (b8 (x / 65536 % 256))).set (o + (3 : Int).toNat * 1) (b8 (x / 16777216)) := by
  rw [show x / 65536 = x / 256 / 256 by omega, show x / 16777216 = x / 256 / 256 / 256 % 256 by omega]
  rfl
theorem bor_u64 {x y : Nat} (hx : x < 18446744073709551616) (hy : y < 18446744073709551616) : bits .or .u64 (x : Int) (y : Int) = ((x ||| y : Nat) : Int) := by
  have e : bits .or .u64 (x : Int) (y : Int) = IntKind.u64.wrap ((BitVec.ofInt 64 (x : Int) ||| BitVec.ofInt 64 (y : Int)).toNat : Int) := rfl
  have hx' : (BitVec.ofInt 64 (x : Int)).toNat = x := by rw [BitVec.toNat_ofInt]; omega
  have hy' : (BitVec.ofInt 64 (y : Int)).toNat = y := by rw [BitVec.toNat_ofInt]; omega
  have hlt : x ||| y < 18446744073709551616 := Nat.or_lt_two_pow (n := 64) hx hy
  rw [e, BitVec.toNat_or, hx', hy', w_u64 (by omega)]
theorem or64 {y : Int} {b : Nat} (hy : 0 ≤ y ∧ y ≤ 72057594037927935) (hb : b < 256) : bits .or .u64 (y * 256) (b : Int) = b + 256 * y := by
  obtain ⟨k, rfl⟩ := Int.eq_ofNat_of_zero_le hy.1
  have e : (k : Int) * 256 = ((k * 2 ^ 8 : Nat) : Int) := by omega
  rw [e, bor_u64 (by omega) (by omega), Nat.or_comm, or_shift (by omega)]
  omega
theorem leV_at {l : List UInt8} {i : Nat} (h : i < l.length) : leV (l.drop i) = ((l.getD i 0).toNat : Int) + 256 * leV (l.drop (i + 1)) := by
  rw [List.drop_eq_getElem_cons h, leV]
  simp [List.getD_eq_getElem?_getD, h]
theorem leV_le7 {l : List UInt8} (h : l.length ≤ 7) : 0 ≤ leV l ∧ leV l ≤ 72057594037927935 := by
  have := leV_rng l
  have h2 : ((256 ^ l.length : Nat) : Int) ≤ ((256 ^ 7 : Nat) : Int) := Int.ofNat_le.2 (Nat.pow_le_pow_right (by decide) h)
  rw [Int.natCast_pow, Int.natCast_pow] at h2
  rw [show ((256 : Nat) : Int) = 256 from rfl] at h2
  have h3 : (256 : Int) ^ 7 = 72057594037927936 := by decide
  omega
theorem or64s {x : Int} {b : UInt8} (k : Nat) {K : Int} (hK : K = ((2 ^ k : Nat) : Int)) (hk : k ≤ 56) (hx : 0 ≤ x ∧ x < K) : bits .or .u64 x ((b.toNat : Int) * K) = x + (b.toNat : Int) * K := by
  subst hK
  obtain ⟨y, rfl⟩ := Int.eq_ofNat_of_zero_le hx.1
  have hb := b.toNat_lt
  have h1 : (2 : Nat) ^ k ≤ 2 ^ 56 := Nat.pow_le_pow_right (by decide) hk
  have h2 : y < 2 ^ k := by have := hx.2; exact_mod_cast this
  have h3 : b.toNat * 2 ^ k ≤ 255 * 2 ^ 56 := Nat.mul_le_mul (by omega) h1
  have e : ((b.toNat : Int) * ((2 ^ k : Nat) : Int)) = ((b.toNat * 2 ^ k : Nat) : Int) := by rw [Int.natCast_mul]
  rw [e, bor_u64 (by omega) (by omega), or_shift h2, Int.natCast_add]
theorem le64_eq (b0 b1 b2 b3 b4 b5 b6 b7 : UInt8) : bits .or .u64 (bits .or .u64 (bits .or .u64 (bits .or .u64 (bits .or .u64 (bits .or .u64 (bits .or .u64 (b0.toNat : Int) ((b1.toNat : Int) * 256)) ((b2.toNat : Int) * 65536)) ((b3.toNat : Int) * 16777216)) ((b4.toNat : Int) * 4294967296)) ((b5.toNat : Int) * 1099511627776)) ((b6.toNat : Int) * 281474976710656)) ((b7.toNat : Int) * 72057594037927936) = leV [b0, b1, b2, b3, b4, b5, b6, b7] := by
  have h0 := b0.toNat_lt; have h1 := b1.toNat_lt; have h2 := b2.toNat_lt; have h3 := b3.toNat_lt; have h4 := b4.toNat_lt; have h5 := b5.toNat_lt; have h6 := b6.toNat_lt; have h7 := b7.toNat_lt
  rw [or64s (K := 256) 8 (by decide) (by decide) (by omega), or64s (K := 65536) 16 (by decide) (by decide) (by omega), or64s (K := 16777216) 24 (by decide) (by decide) (by omega), or64s (K := 4294967296) 32 (by decide) (by decide) (by omega), or64s (K := 1099511627776) 40 (by decide) (by decide) (by omega), or64s (K := 281474976710656) 48 (by decide) (by decide) (by omega), or64s (K := 72057594037927936) 56 (by decide) (by decide) (by omega)]
  simp only [leV]; omega
theorem bor_u16 {x y : Nat} (hx : x < 65536) (hy : y < 65536) : bits .or .u16 (x : Int) (y : Int) = ((x ||| y : Nat) : Int) := by
  have e : bits .or .u16 (x : Int) (y : Int) = IntKind.u16.wrap ((BitVec.ofInt 16 (x : Int) ||| BitVec.ofInt 16 (y : Int)).toNat : Int) := rfl
  have hx' : (BitVec.ofInt 16 (x : Int)).toNat = x := by rw [BitVec.toNat_ofInt]; omega
  have hy' : (BitVec.ofInt 16 (y : Int)).toNat = y := by rw [BitVec.toNat_ofInt]; omega
  have hlt : x ||| y < 65536 := Nat.or_lt_two_pow (n := 16) hx hy
  rw [e, BitVec.toNat_or, hx', hy', w_u16 (by omega)]
theorem le16_eq (b0 b1 : UInt8) : bits .or .u16 (b0.toNat : Int) ((b1.toNat : Int) * 256) = leV [b0, b1] := by
  have h0 := b0.toNat_lt; have h1 := b1.toNat_lt
  have e1 : ((b1.toNat : Int) * 256) = ((b1.toNat * 2 ^ 8 : Nat) : Int) := by omega
  rw [e1, bor_u16 (by omega) (by omega), or_shift (by omega)]
  simp only [leV]; omega
theorem two_at {cur : List UInt8} {o : Nat} (h : o + 2 ≤ cur.length) : (cur.drop o).take 2 = [cur.getD o 0, cur.getD (o + 1) 0] := by
  refine List.ext_getElem? fun i => ?_
  match i with
  | 0 => simp [List.getD_eq_getElem?_getD, show o < cur.length by omega]
  | 1 => simp [List.getD_eq_getElem?_getD, show o + 1 < cur.length by omega]
  | i + 2 => simp; omega
theorem eight_at {cur : List UInt8} {o : Nat} (h : o + 8 ≤ cur.length) : (cur.drop o).take 8 = [cur.getD o 0, cur.getD (o + 1) 0, cur.getD (o + 2) 0, cur.getD (o + 3) 0, cur.getD (o + 4) 0, cur.getD (o + 5) 0, cur.getD (o + 6) 0, cur.getD (o + 7) 0] := by
  have := four_at (cur := cur) (o := o) (by omega)
  have h2 := four_at (cur := cur) (o := o + 4) (by omega)
  rw [show 8 = 4 + 4 from rfl, List.take_add, this, List.drop_drop, h2]
  rfl
/-- The value of the bytes from the last down. -/
theorem leV_down {ds : List UInt8} {p n m : Nat} (h : p + n ≤ ds.length) (hm : m < n) : leV ((ds.drop (p + (n - (m + 1)))).take (m + 1)) = ((ds.getD (p + (n - (m + 1))) 0).toNat : Int) + 256 * leV ((ds.drop (p + (n - m))).take m) := by
  rw [List.drop_eq_getElem_cons (by omega), List.take_succ_cons, leV, show p + (n - (m + 1)) + 1 = p + (n - m) by omega]
  simp [List.getD_eq_getElem?_getD, show p + (n - (m + 1)) < ds.length by omega]
end Go.Proofs.YtgmkjndmjnbahaaDoor.X
