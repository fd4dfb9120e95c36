/- Bits of bytes, as plain functions. -/
import Derived.Test.YtbldfojecpljoaaSteps3
namespace Go.Proofs.Ytbldfojecpljoaa.X
open Go
def mask8 (i : Nat) : Int := IntKind.u8.wrap (1 * 2 ^ (min i 8))
/-- Is a bit of a byte set? -/
def tb (b : UInt8) (i : Nat) : Bool := b.toNat.testBit i
theorem tb_mask_fin : ∀ (x : Fin 256) (i : Fin 8), (bits .and .u8 (x.val : Int) (mask8 i.val) = mask8 i.val) ↔ x.val.testBit i.val = true := by decide +kernel
theorem tb_mask0_fin : ∀ (x : Fin 256) (i : Fin 8), (bits .and .u8 (x.val : Int) (mask8 i.val) = 0) ↔ x.val.testBit i.val = false := by decide +kernel
theorem tb_shift_fin : ∀ (x : Fin 256) (i : Fin 8), (bits .and .u8 ((x.val : Int) / 2 ^ (min i.val 8)) 1 = 1) ↔ x.val.testBit i.val = true := by decide +kernel
theorem andnot_fin : ∀ (x : Fin 256) (i : Fin 8), bits .and .u8 (x.val : Int) (bits .xor .u8 255 (mask8 i.val)) = bits .andNot .u8 (x.val : Int) (mask8 i.val) := by decide +kernel
theorem bits_rng_fin : ∀ (x : Fin 256) (i : Fin 8), (0 ≤ bits .andNot .u8 (x.val : Int) (mask8 i.val) ∧ bits .andNot .u8 (x.val : Int) (mask8 i.val) ≤ 255) ∧ (0 ≤ bits .or .u8 (x.val : Int) (mask8 i.val) ∧ bits .or .u8 (x.val : Int) (mask8 i.val) ≤ 255) := by decide +kernel
theorem tb_mask (b : UInt8) (i : Nat) (h : i < 8) : (bits .and .u8 (b.toNat : Int) (mask8 i) = mask8 i) ↔ tb b i = true := tb_mask_fin ⟨b.toNat, b.toNat_lt⟩ ⟨i, h⟩
theorem tb_mask0 (b : UInt8) (i : Nat) (h : i < 8) : (bits .and .u8 (b.toNat : Int) (mask8 i) = 0) ↔ tb b i = false := tb_mask0_fin ⟨b.toNat, b.toNat_lt⟩ ⟨i, h⟩
theorem tb_shift (b : UInt8) (i : Nat) (h : i < 8) : (bits .and .u8 ((b.toNat : Int) / 2 ^ (min i 8)) 1 = 1) ↔ tb b i = true := tb_shift_fin ⟨b.toNat, b.toNat_lt⟩ ⟨i, h⟩
theorem andnot_eq (b : UInt8) (i : Nat) (h : i < 8) : bits .and .u8 (b.toNat : Int) (bits .xor .u8 255 (mask8 i)) = bits .andNot .u8 (b.toNat : Int) (mask8 i) := andnot_fin ⟨b.toNat, b.toNat_lt⟩ ⟨i, h⟩
theorem andnot_rng (b : UInt8) (i : Nat) (h : i < 8) : 0 ≤ bits .andNot .u8 (b.toNat : Int) (mask8 i) ∧ bits .andNot .u8 (b.toNat : Int) (mask8 i) ≤ 255 := (bits_rng_fin ⟨b.toNat, b.toNat_lt⟩ ⟨i, h⟩).1
theorem or_rng (b : UInt8) (i : Nat) (h : i < 8) : 0 ≤ bits .or .u8 (b.toNat : Int) (mask8 i) ∧ bits .or .u8 (b.toNat : Int) (mask8 i) ≤ 255 := (bits_rng_fin ⟨b.toNat, b.toNat_lt⟩ ⟨i, h⟩).2
theorem mask8_eq (k : Nat) : IntKind.u8.wrap (1 * 2 ^ (min ((k : Int) % 8).toNat IntKind.u8.bits)) = mask8 (k % 8) := by
  have : ((k : Int) % 8).toNat = k % 8 := by omega
  rw [this]; rfl
theorem ix8 (k : Nat) : 0 + ((k : Int) / 8).toNat * 1 = k / 8 := by omega
theorem ix8' (k : Nat) : ((k : Int) / 8).toNat = k / 8 := by omega
/-- A bit of a map. -/
def bitAt (bs : List UInt8) (n : Nat) : Bool := tb (bs.getD (n / 8) 0) (n % 8)
/-- The map with a bit set, or cleared. -/
def bitWith (bs : List UInt8) (n : Nat) (c : Bool) : List UInt8 :=
  bs.set (n / 8) (if c then b8 (bits .andNot .u8 ((bs.getD (n / 8) 0).toNat : Int) (mask8 (n % 8))) else b8 (bits .or .u8 ((bs.getD (n / 8) 0).toNat : Int) (mask8 (n % 8))))
end Go.Proofs.Ytbldfojecpljoaa.X
