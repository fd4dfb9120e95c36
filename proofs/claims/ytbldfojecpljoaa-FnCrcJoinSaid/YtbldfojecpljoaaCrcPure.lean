/- Sums of bytes, as plain functions. -/
import Derived.Test.YtbldfojecpljoaaSteps2
namespace Go.Proofs.Ytbldfojecpljoaa.X
open Go
def crcBit (x : Int) : Int := if bits .and .u32 x 1 ≠ 0 then bits .xor .u32 (x / 2) 2197175160 else x / 2
def crcN : Nat → Int → Int
  | 0, x => x
  | k + 1, x => crcN k (crcBit x)
def crcByte (x : Int) (b : UInt8) : Int := crcN 8 (bits .xor .u32 x (b.toNat : Int))
theorem crcByte_eq (x : Int) (b : UInt8) : crcN (8 - 0) (bits .xor .u32 x (b.toNat : Int)) = crcByte x b := rfl
def crcC (bs : List UInt8) (x : Int) : Int := bs.foldl crcByte x
theorem crcC_drop (bs : List UInt8) (i : Nat) (y : Int) (h : i < bs.length) : crcC (bs.drop i) y = crcC (bs.drop (i + 1)) (crcByte y (bs.getD i 0)) := by
  rw [List.drop_eq_getElem_cons h]
  simp only [crcC, List.foldl_cons]
  simp [List.getD_eq_getElem?_getD, h]
theorem and1 (n : Nat) (x : BitVec n) (h : 1 ≤ n) : (x &&& BitVec.ofInt n 1).toNat = x.toNat % 2 := by
  rw [BitVec.toNat_and]
  have : (BitVec.ofInt n 1).toNat = 2 ^ 1 - 1 := by
    rw [BitVec.toNat_ofInt]
    have h2 : 1 < 2 ^ n := Nat.one_lt_two_pow (by omega)
    have h3 : (1 : Int) % ((2 ^ n : Nat) : Int) = 1 := Int.emod_eq_of_lt (by decide) (by omega)
    rw [h3]; rfl
  rw [this, Nat.and_two_pow_sub_one_eq_mod]
theorem bitAnd1 (x : Int) : bits .and .u32 x 1 = 0 ∨ bits .and .u32 x 1 = 1 := by
  have h := and1 _ (BitVec.ofInt IntKind.u32.bits x) (by decide)
  have e : bits .and .u32 x 1 = IntKind.u32.wrap ((BitVec.ofInt IntKind.u32.bits x &&& BitVec.ofInt IntKind.u32.bits 1).toNat : Int) := rfl
  rw [e, h, w_u32 (by omega)]
  omega
end Go.Proofs.Ytbldfojecpljoaa.X
