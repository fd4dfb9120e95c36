/- Bits of bytes, as plain functions. -/
import Derived.Test.YtbldfojecpljoaaSteps3
namespace Go.Proofs.Ytbldfojecpljoaa.X
open Go
def mask8 (i : Nat) : Int := IntKind.u8.wrap (1 * 2 ^ (min i 8))
/-- Is a bit of a byte set? -/
def tb (b : UInt8) (i : Nat) : Bool := b.toNat.testBit i
theorem tb_mask_fin : ∀ (x : Fin 256) (i : Fin 8), (bits .and .u8 (x.val : Int) (mask8 i.val) = mask8 i.val) ↔ x.val.testBit i.val = true := by decide +kernel
theorem tb_mask0_fin : ∀ (x : Fin 256) (i : Fin 8), (bits .and .u8 (x.val : Int) (mask8 i.val) = 0) ↔ x.val.testBit i.val = false := by decide +kernel
theorem tb_shift_fin : ∀ (x : Fin 256) (i : Fin 8), (bits .and .u8 ((x.val : Int) / 2 ^ (min i.val 8)) 1 = 1) ↔ x.val.testBit i.val = true := by decide +kernel
theorem andnot_fin : ∀ (x : Fin 256) (i : Fin 8), bits .and .u8 (x.val : Int) (bits .xor .u8 255 (mask8 i.val)) = bits .andNot .u8 (x.val : Int) (mask8 i.val) := by decide +kernel
theorem bits_rng_fin : ∀ (x : Fin 256) (i : Fin 8), (0 ≤ bits .andNot .u8 (x.val : Int) (mask8 i.val) ∧ bits .andNot .u8 (x.val : Int) (mask8 i.val) ≤ 255) ∧ (0 ≤ bits .or .u8 (x.val : Int) (mask8 i.val) ∧ bits .or .u8 (x.val : Int) (mask8 i.val) ≤ 255) := by decide +kernel
theorem tb_mask (b : UInt8) (i : Nat) (h : i < 8) : (bits .and .u8 (b.toNat : Int) (mask8 i) = mask8 i) ↔ tb b i = true := tb_mask_fin ⟨b.toNat, b.toNat_lt⟩ ⟨i, h⟩
theorem tb_mask0 (b : UInt8) (i : Nat) (h : i < 8) : (bits .and .u8 (b.toNat : Int) (mask8 i) = 0) ↔ tb b i = false := tb_mask0_fin ⟨b.toNat, b.toNat_lt⟩ ⟨i, h⟩
theorem tb_shift (b : UInt8) (i : Nat) (h : i < 8) : (bits .and .u8 ((b.toNat : Int) / 2 ^ (min i 8)) 1 = 1) ↔ tb b i = true := tb_shift_fin ⟨b.toNat, b.toNat_lt⟩ ⟨i, h⟩
theorem andnot_eq (b : UInt8) (i : Nat) (h : i < 8) : bits .and .u8 (b.toNat : Int) (bits .xor .u8 255 (mask8 i)) = bits .andNot .u8 (b.toNat : Int) (mask8 i) := andnot_fin ⟨b.toNat, b.toNat_lt⟩ ⟨i, h⟩
theorem andnot_rng (b : UInt8) (i : Nat) (h : i < 8) : 0 ≤ bits .andNot .u8 (b.toNat : Int) (mask8 i) ∧ bits .andNot .u8 (b.toNat : Int) (mask8 i) ≤ 255 := (bits_rng_fin ⟨b.toNat, b.toNat_lt⟩ ⟨i, h⟩).1
theorem or_rng (b : UInt8) (i : Nat) (h : i < 8) : 0 ≤ bits .or .u8 (b.toNat : Int) (mask8 i) ∧ bits .or .u8 (b.toNat : Int) (mask8 i) ≤ 255 := (bits_rng_fin ⟨b.toNat, b.toNat_lt⟩ ⟨i, h⟩).2
theorem mask8_eq (k : Nat) : IntKind.u8.wrap (1 * 2 ^ (min ((k : Int) % 8).toNat IntKind.u8.bits)) = mask8 (k % 8) := by
  have : ((k : Int) % 8).toNat = k % 8 := by omega
  rw [this]; rfl
theorem ix8 (k : Nat) : 0 + ((k : Int) / 8).toNat * 1 = k / 8 := by omega
theorem ix8' (k : Nat) : ((k : Int) / 8).toNat = k / 8 := by omega
/-- A bit of a map. -/
def bitAt (bs : List UInt8) (n : Nat) : Bool := tb (bs.getD (n / 8) 0) (n % 8)
theorem mask8_eq' (k : Nat) : IntKind.u8.wrap (1 * 2 ^ (min ((k : Int)).toNat IntKind.u8.bits)) = mask8 k := by
  rw [Int.toNat_natCast]; rfl
/-- The first place from n on, of d, whose bit is v. -/
def findB (bs : List UInt8) (v : Bool) : Nat → Nat → Int
  | 0, _ => -1
  | d + 1, n => if bitAt bs n = v then (n : Int) else findB bs v d (n + 1)
def findF (bs : List UInt8) (v : Bool) (n : Nat) : Int := findB bs v (8 * bs.length - n) n
theorem findF_end {bs : List UInt8} {v : Bool} {n : Nat} (h : 8 * bs.length ≤ n) : findF bs v n = -1 := by
  unfold findF
  rw [show 8 * bs.length - n = 0 by omega]; rfl
theorem findF_hit {bs : List UInt8} {v : Bool} {n : Nat} (h : n < 8 * bs.length) (hb : bitAt bs n = v) : findF bs v n = n := by
  unfold findF
  rw [show 8 * bs.length - n = (8 * bs.length - (n + 1)) + 1 by omega, findB, if_pos hb]
theorem findF_step {bs : List UInt8} {v : Bool} {n : Nat} (h : n < 8 * bs.length) (hb : bitAt bs n ≠ v) : findF bs v n = findF bs v (n + 1) := by
  unfold findF
  rw [show 8 * bs.length - n = (8 * bs.length - (n + 1)) + 1 by omega, findB, if_neg hb]
theorem tb_ff : ∀ j : Fin 8, tb 255 j.val = true := by decide +kernel
theorem tb_00 : ∀ j : Fin 8, tb 0 j.val = false := by decide +kernel
theorem findF_skip {bs : List UInt8} {v : Bool} {i : Nat} (h : i < bs.length) (hb : ∀ j, j < 8 → tb (bs.getD i 0) j ≠ v) : ∀ d j, j + d = 8 → findF bs v (8 * i + j) = findF bs v (8 * (i + 1))
  | 0, j, hj => by rw [show 8 * i + j = 8 * (i + 1) by omega]
  | d + 1, j, hj => by
    rw [findF_step (by omega) ?_]
    · exact findF_skip h hb d (j + 1) (by omega)
    · unfold bitAt
      rw [show (8 * i + j) / 8 = i by omega, show (8 * i + j) % 8 = j by omega]
      exact hb j (by omega)
theorem findF_byte {bs : List UInt8} {v : Bool} {i : Nat} {c : UInt8} (h : i < bs.length) (hc : (bs.getD i 0) = c) (hb : ∀ j : Fin 8, tb c j.val ≠ v) : findF bs v (8 * i) = findF bs v (8 * (i + 1)) :=
  findF_skip h (fun j hj => by rw [hc]; exact hb ⟨j, hj⟩) 8 0 rfl
theorem bitAt_at {bs : List UInt8} {i j : Nat} (hj : j < 8) : bitAt bs (8 * i + j) = tb (bs.getD i 0) j := by
  unfold bitAt
  rw [show (8 * i + j) / 8 = i by omega, show (8 * i + j) % 8 = j by omega]
theorem u8_of_int {b : UInt8} {n : Nat} (h : (b.toNat : Int) = n) (hn : n < 256) : b = UInt8.ofNat n := by
  apply UInt8.toNat.inj
  simp; omega
/-- The map with a bit set, or cleared. -/
def bitWith (bs : List UInt8) (n : Nat) (c : Bool) : List UInt8 :=
  bs.set (n / 8) (if c then b8 (bits .andNot .u8 ((bs.getD (n / 8) 0).toNat : Int) (mask8 (n % 8))) else b8 (bits .or .u8 ((bs.getD (n / 8) 0).toNat : Int) (mask8 (n % 8))))
end Go.Proofs.Ytbldfojecpljoaa.X
