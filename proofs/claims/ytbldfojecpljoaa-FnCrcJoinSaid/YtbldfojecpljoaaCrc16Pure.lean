/- The sum of sixteen bits, as a plain function: what the table says is what eight steps of one bit give. -/
import Derived.Test.YtbldfojecpljoaaCrcPure
import Derived.Test.YtbldfojecpljoaaSteps4
namespace Go.Proofs.Ytbldfojecpljoaa.X
open Go
set_option linter.unusedSimpArgs false
set_option linter.unusedVariables false
def ccTab : List Int := [0, 4129, 8258, 12387, 16516, 20645, 24774, 28903, 33032, 37161, 41290, 45419, 49548, 53677, 57806, 61935, 4657, 528, 12915, 8786, 21173, 17044, 29431, 25302, 37689, 33560, 45947, 41818, 54205, 50076, 62463, 58334, 9314, 13379, 1056, 5121, 25830, 29895, 17572, 21637, 42346, 46411, 34088, 38153, 58862, 62927, 50604, 54669, 13907, 9842, 5649, 1584, 30423, 26358, 22165, 18100, 46939, 42874, 38681, 34616, 63455, 59390, 55197, 51132, 18628, 22757, 26758, 30887, 2112, 6241, 10242, 14371, 51660, 55789, 59790, 63919, 35144, 39273, 43274, 47403, 23285, 19156, 31415, 27286, 6769, 2640, 14899, 10770, 56317, 52188, 64447, 60318, 39801, 35672, 47931, 43802, 27814, 31879, 19684, 23749, 11298, 15363, 3168, 7233, 60846, 64911, 52716, 56781, 44330, 48395, 36200, 40265, 32407, 28342, 24277, 20212, 15891, 11826, 7761, 3696, 65439, 61374, 57309, 53244, 48923, 44858, 40793, 36728, 37256, 33193, 45514, 41451, 53516, 49453, 61774, 57711, 4224, 161, 12482, 8419, 20484, 16421, 28742, 24679, 33721, 37784, 41979, 46042, 49981, 54044, 58239, 62302, 689, 4752, 8947, 13010, 16949, 21012, 25207, 29270, 46570, 42443, 38312, 34185, 62830, 58703, 54572, 50445, 13538, 9411, 5280, 1153, 29798, 25671, 21540, 17413, 42971, 47098, 34713, 38840, 59231, 63358, 50973, 55100, 9939, 14066, 1681, 5808, 26199, 30326, 17941, 22068, 55628, 51565, 63758, 59695, 39368, 35305, 47498, 43435, 22596, 18533, 30726, 26663, 6336, 2273, 14466, 10403, 52093, 56156, 60223, 64286, 35833, 39896, 43963, 48026, 19061, 23124, 27191, 31254, 2801, 6864, 10931, 14994, 64814, 60687, 56684, 52557, 48554, 44427, 40424, 36297, 31782, 27655, 23652, 19525, 15522, 11395, 7392, 3265, 61215, 65342, 53085, 57212, 44955, 49082, 36825, 40952, 28183, 32310, 20053, 24180, 11923, 16050, 3793, 7920]
def ccBit (x : Int) : Int := if x / 32768 = 1 then bits .xor .u16 (x * 2 % 65536) 4129 else x * 2 % 65536
def ccN : Nat → Int → Int
  | 0, x => x
  | k + 1, x => ccN k (ccBit x)
/-- One byte, bit by bit. -/
def ccByte (x : Int) (b : UInt8) : Int := ccN 8 (bits .xor .u16 x ((b.toNat : Int) * 256 % 65536))
theorem ccByte_eq (x : Int) (b : UInt8) : ccN (8 - 0) (bits .xor .u16 x ((b.toNat : Int) * 256 % 65536)) = ccByte x b := rfl
theorem ccByte_eq2 (x : Int) (b : UInt8) : ccN (8 - 0) (bits .xor .u16 x ((b.toNat : Int) * 256)) = ccByte x b := by
  have := b.toNat_lt
  unfold ccByte
  rw [Int.emod_eq_of_lt (by omega) (by omega)]
def ccIx (x : Int) (b : UInt8) : Int := bits .xor .u16 (bits .and .u16 (x / 256) 255) (b.toNat : Int)
/-- One byte, by the table. -/
def ccStep (x : Int) (b : UInt8) : Int := bits .xor .u16 (bits .and .u16 (x * 256 % 65536) 65280) (ccTab.getD (ccIx x b).toNat 0)
def cc (bs : List UInt8) (x : Int) : Int := bs.foldl ccByte x
theorem cc_drop (bs : List UInt8) (i : Nat) (y : Int) (h : i < bs.length) : cc (bs.drop i) y = cc (bs.drop (i + 1)) (ccByte y (bs.getD i 0)) := by
  rw [List.drop_eq_getElem_cons h]
  simp only [cc, List.foldl_cons]
  simp [List.getD_eq_getElem?_getD, h]
theorem cc_append (a b : List UInt8) (x : Int) : cc (a ++ b) x = cc b (cc a x) := by simp [cc]
theorem crcC_append (a b : List UInt8) (x : Int) : crcC (a ++ b) x = crcC b (crcC a x) := by simp [crcC]

/-! #### as bits -/
abbrev B := BitVec 16
def V (x : B) : Int := (x.toNat : Int)
theorem ofInt_V (x : B) : BitVec.ofInt 16 (V x) = x := by
  apply BitVec.eq_of_toNat_eq
  have := x.isLt
  rw [BitVec.toNat_ofInt]; unfold V; omega
theorem V_lt (x : B) : 0 ≤ V x ∧ V x ≤ 65535 := by have := x.isLt; unfold V; omega
theorem V_of {x : Int} (h : 0 ≤ x ∧ x ≤ 65535) : V (BitVec.ofInt 16 x) = x := by
  unfold V; rw [BitVec.toNat_ofInt]; omega
theorem bxor_V (x y : B) : bits .xor .u16 (V x) (V y) = V (x ^^^ y) := by
  have e : bits .xor .u16 (V x) (V y) = IntKind.u16.wrap ((BitVec.ofInt 16 (V x) ^^^ BitVec.ofInt 16 (V y)).toNat : Int) := rfl
  rw [e, ofInt_V, ofInt_V]; exact w_u16 (V_lt _)
theorem band_V (x y : B) : bits .and .u16 (V x) (V y) = V (x &&& y) := by
  have e : bits .and .u16 (V x) (V y) = IntKind.u16.wrap ((BitVec.ofInt 16 (V x) &&& BitVec.ofInt 16 (V y)).toNat : Int) := rfl
  rw [e, ofInt_V, ofInt_V]; exact w_u16 (V_lt _)
theorem shl_V (x : B) (s : Nat) (p : Nat) (hp : 2 ^ s = p) : V x * (p : Int) % (65536 : Int) = V (x <<< s) := by
  subst hp
  unfold V
  rw [BitVec.toNat_shiftLeft, Nat.shiftLeft_eq]
  omega
def bBit (x : B) : B := (x <<< 1) ^^^ (if x.getLsbD 15 then 4129#16 else 0#16)
def bN : Nat → B → B
  | 0, x => x
  | k + 1, x => bN k (bBit x)
theorem top_V (x : B) : V x / 32768 = 1 ↔ x.getLsbD 15 = true := by
  unfold V BitVec.getLsbD
  rw [Nat.testBit_eq_decide_div_mod_eq]
  have := x.isLt
  simp only [decide_eq_true_eq]; omega
theorem ccBit_V (x : B) : ccBit (V x) = V (bBit x) := by
  unfold ccBit bBit
  have e : V x * (2 : Int) % (65536 : Int) = V (x <<< 1) := shl_V x 1 2 rfl
  rw [e]
  by_cases h : x.getLsbD 15 = true
  · rw [if_pos ((top_V x).2 h), if_pos h]; exact bxor_V _ 4129#16
  · rw [if_neg (fun k => h ((top_V x).1 k)), if_neg h]; simp
theorem ccN_V : ∀ (k : Nat) (x : B), ccN k (V x) = V (bN k x)
  | 0, x => rfl
  | k + 1, x => by rw [ccN, ccBit_V, ccN_V k]; rfl
theorem bBit_xor (x y : B) : bBit (x ^^^ y) = bBit x ^^^ bBit y := by
  unfold bBit
  rw [BitVec.shiftLeft_xor_distrib, BitVec.getLsbD_xor]
  have h4 : ∀ a b : B, a ^^^ b = 4129#16 ^^^ (4129#16 ^^^ (a ^^^ b)) := fun a b => by rw [← BitVec.xor_assoc, BitVec.xor_self, BitVec.zero_xor]
  cases x.getLsbD 15 <;> cases y.getLsbD 15 <;> simp only [if_true, if_false, Bool.xor_true, Bool.xor_false, Bool.not_true, Bool.not_false, BitVec.xor_zero, Bool.false_eq_true]
  · ac_rfl
  · ac_rfl
  · rw [h4]; ac_rfl
theorem bN_xor : ∀ (k : Nat) (x y : B), bN k (x ^^^ y) = bN k x ^^^ bN k y
  | 0, x, y => rfl
  | k + 1, x, y => by rw [bN, bBit_xor, bN_xor k]; rfl
theorem tab_fin : ∀ k : Fin 256, ccTab.getD k.val 0 = V (bN 8 (BitVec.ofNat 16 k.val <<< 8)) := by decide +kernel
theorem low_fin : ∀ k : Fin 256, bN 8 (BitVec.ofNat 16 k.val) = BitVec.ofNat 16 k.val <<< 8 := by decide +kernel
theorem b8_lt (b : UInt8) : (b.toNat : Nat) < 256 := b.toNat_lt
theorem ofNat_self (x : B) : BitVec.ofNat 16 x.toNat = x := by
  apply BitVec.eq_of_toNat_eq
  have := x.isLt
  rw [BitVec.toNat_ofNat]; omega
theorem ccTab_len : ccTab.length = 256 := by decide +kernel
theorem byte_V (b : UInt8) : (b.toNat : Int) = V (BitVec.ofNat 16 b.toNat) := by
  have := b.toNat_lt; unfold V; rw [BitVec.toNat_ofNat]; omega
theorem shr_V (x : B) : V x / (256 : Int) = V (x >>> 8) := by
  unfold V; rw [BitVec.toNat_ushiftRight, Nat.shiftRight_eq_div_pow]; omega
theorem and255 (x : B) : (x &&& 255#16).toNat < 256 := by
  rw [BitVec.toNat_and]
  exact Nat.lt_of_le_of_lt Nat.and_le_right (by decide)
theorem xor_lt256 {a b : Nat} (ha : a < 256) (hb : b < 256) : a ^^^ b < 256 := Nat.xor_lt_two_pow (n := 8) ha hb
theorem ccIx_V (x : B) (b : UInt8) : ccIx (V x) b = V (((x >>> 8) &&& 255#16) ^^^ BitVec.ofNat 16 b.toNat) := by
  unfold ccIx
  rw [shr_V, byte_V]
  have e : bits .and .u16 (V (x >>> 8)) 255 = V ((x >>> 8) &&& 255#16) := band_V _ 255#16
  rw [e, bxor_V]
theorem ccIx_lt {x : Int} (h : 0 ≤ x ∧ x ≤ 65535) (b : UInt8) : 0 ≤ ccIx x b ∧ ccIx x b < 256 := by
  rw [← V_of h, ccIx_V]
  unfold V
  rw [BitVec.toNat_xor]
  have h1 := and255 (BitVec.ofInt 16 x >>> 8)
  have h2 : (BitVec.ofNat 16 b.toNat).toNat < 256 := by have := b.toNat_lt; rw [BitVec.toNat_ofNat]; omega
  have := xor_lt256 h1 h2
  omega
theorem split8 (x : B) (c : B) (hc : c.toNat < 256) : x ^^^ (c <<< 8) = ((((x >>> 8) &&& 255#16) ^^^ c) <<< 8) ^^^ (x &&& 255#16) := by
  apply BitVec.eq_of_getLsbD_eq
  intro i hi
  have h255 : ∀ j, (255#16).getLsbD j = decide (j < 8) := by
    intro j
    by_cases hj : j < 16
    · exact (by decide +kernel : ∀ j : Fin 16, (255#16).getLsbD j.val = decide (j.val < 8)) ⟨j, hj⟩
    · rw [BitVec.getLsbD_of_ge _ _ (by omega)]; simp; omega
  simp only [BitVec.getLsbD_xor, BitVec.getLsbD_shiftLeft, BitVec.getLsbD_and, BitVec.getLsbD_ushiftRight, h255]
  by_cases h8 : i < 8
  · simp [h8]
  · simp only [h8, hi, decide_true, decide_false, Bool.not_false, Bool.true_and, Bool.and_false, Bool.xor_false]
    have : i - 8 < 8 := by omega
    simp [this, show 8 + (i - 8) = i by omega]
theorem high8 (x : B) : (x <<< 8) &&& 65280#16 = x <<< 8 := by
  apply BitVec.eq_of_getLsbD_eq
  intro i hi
  have h : (65280#16).getLsbD i = decide (8 ≤ i) := (by decide +kernel : ∀ j : Fin 16, (65280#16).getLsbD j.val = decide (8 ≤ j.val)) ⟨i, hi⟩
  rw [BitVec.getLsbD_and, h, BitVec.getLsbD_shiftLeft]
  by_cases h8 : i < 8
  · simp [h8]
  · simp [h8, Nat.le_of_not_lt h8]
theorem low8 (x : B) : (x &&& 255#16) <<< 8 = x <<< 8 := by
  apply BitVec.eq_of_getLsbD_eq
  intro i hi
  rw [BitVec.getLsbD_shiftLeft, BitVec.getLsbD_shiftLeft, BitVec.getLsbD_and]
  by_cases h8 : i < 8
  · simp [h8]
  · have h : (255#16).getLsbD (i - 8) = true := by
      have : i - 8 < 8 := by omega
      exact (by decide +kernel : ∀ j : Fin 8, (255#16).getLsbD j.val = true) ⟨i - 8, this⟩
    simp [h]
/-- The table's step is the eight bits'. -/
theorem ccStep_eq {x : Int} (h : 0 ≤ x ∧ x ≤ 65535) (b : UInt8) : ccStep x b = ccByte x b := by
  rw [← V_of h]
  generalize BitVec.ofInt 16 x = y
  have hc : (BitVec.ofNat 16 b.toNat).toNat < 256 := by have := b.toNat_lt; rw [BitVec.toNat_ofNat]; omega
  have hk : ((y >>> 8 &&& 255#16) ^^^ BitVec.ofNat 16 b.toNat).toNat < 256 := by
    rw [BitVec.toNat_xor]; exact xor_lt256 (and255 _) hc
  have e1 : (ccIx (V y) b).toNat = ((y >>> 8 &&& 255#16) ^^^ BitVec.ofNat 16 b.toNat).toNat := by rw [ccIx_V]; rfl
  have e2 := tab_fin ⟨_, hk⟩
  have e3 : BitVec.ofNat 16 ((y >>> 8 &&& 255#16) ^^^ BitVec.ofNat 16 b.toNat).toNat = (y >>> 8 &&& 255#16) ^^^ BitVec.ofNat 16 b.toNat := ofNat_self _
  have e4 : bits .and .u16 (V y * 256 % 65536) 65280 = V (y <<< 8) := by
    have := shl_V y 8 256 rfl
    rw [show ((256 : Nat) : Int) = 256 from rfl] at this
    rw [this]
    have := band_V (y <<< 8) 65280#16
    rw [high8] at this
    exact this
  have e5 : bits .xor .u16 (V y) ((b.toNat : Int) * 256 % 65536) = V (y ^^^ (BitVec.ofNat 16 b.toNat <<< 8)) := by
    have := shl_V (BitVec.ofNat 16 b.toNat) 8 256 rfl
    rw [show ((256 : Nat) : Int) = 256 from rfl, ← byte_V] at this
    rw [this, bxor_V]
  unfold ccStep ccByte
  rw [e1, e2, e3, e4, e5, bxor_V, ccN_V, split8 _ _ hc, bN_xor]
  have e6 := low_fin ⟨(y &&& 255#16).toNat, and255 y⟩
  have e7 : BitVec.ofNat 16 (y &&& 255#16).toNat = y &&& 255#16 := ofNat_self _
  simp only [e7] at e6
  rw [e6, low8, BitVec.xor_comm]
theorem ccByte_rng {x : Int} (h : 0 ≤ x ∧ x ≤ 65535) (b : UInt8) : 0 ≤ ccByte x b ∧ ccByte x b ≤ 65535 := by
  have e5 : ccByte x b = V (bN 8 (BitVec.ofInt 16 x ^^^ (BitVec.ofNat 16 b.toNat <<< 8))) := by
    unfold ccByte
    have := shl_V (BitVec.ofNat 16 b.toNat) 8 256 rfl
    rw [show ((256 : Nat) : Int) = 256 from rfl, ← byte_V] at this
    rw [this, ← V_of h, bxor_V, ccN_V, V_of h]
  rw [e5]; exact V_lt _
theorem cc_rng : ∀ (bs : List UInt8) {x : Int}, 0 ≤ x ∧ x ≤ 65535 → 0 ≤ cc bs x ∧ cc bs x ≤ 65535
  | [], x, h => h
  | b :: bs, x, h => cc_rng bs (ccByte_rng h b)
theorem ccTab_get {k : Int} {i : Nat} (h0 : 0 ≤ k) (hi : k.toNat < i) (hl : i ≤ 256) : ((ccTab.take i).map (Value.int .u16))[k.toNat]? = some (.int .u16 (ccTab.getD k.toNat 0)) := by
  have : k.toNat < ccTab.length := by rw [ccTab_len]; omega
  rw [List.getElem?_map, List.getElem?_take, if_pos hi, List.getElem?_eq_getElem this]
  simp [List.getD_eq_getElem?_getD, this]
theorem ccTab_get' {k : Int} (h0 : 0 ≤ k - 128) (hi : k < 256) : ((ccTab.drop 128).map (Value.int .u16))[(k - 128).toNat]? = some (.int .u16 (ccTab.getD k.toNat 0)) := by
  have : k.toNat < ccTab.length := by rw [ccTab_len]; omega
  have e : 128 + (k - 128).toNat = k.toNat := by omega
  rw [List.getElem?_map, List.getElem?_drop, e, List.getElem?_eq_getElem this]
  simp [List.getD_eq_getElem?_getD, this]
end Go.Proofs.Ytbldfojecpljoaa.X
