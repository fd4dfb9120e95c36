/- The laws of single operations, in the form in which a walk uses them. -/
import Derived.Test.YtgmkjndmjnbahaaDoorOps
namespace Go.Proofs.YtgmkjndmjnbahaaDoor.X
set_option linter.unusedVariables false
open Go Go.RowKit

/-! ### Numbers within their kind -/
theorem w_i64 {z : Int} (h : -9223372036854775808 ≤ z ∧ z ≤ 9223372036854775807) : IntKind.i64.wrap z = z := by rw [IntKind.wrap_i64]; omega
theorem w_i32 {z : Int} (h : -2147483648 ≤ z ∧ z ≤ 2147483647) : IntKind.i32.wrap z = z := by simp [IntKind.wrap, IntKind.bits, IntKind.signed]; omega
theorem w_i16 {z : Int} (h : -32768 ≤ z ∧ z ≤ 32767) : IntKind.i16.wrap z = z := by simp [IntKind.wrap, IntKind.bits, IntKind.signed]; omega
theorem w_u8 {z : Int} (h : 0 ≤ z ∧ z ≤ 255) : IntKind.u8.wrap z = z := by simp [IntKind.wrap, IntKind.bits, IntKind.signed]; omega
theorem w_u16 {z : Int} (h : 0 ≤ z ∧ z ≤ 65535) : IntKind.u16.wrap z = z := by simp [IntKind.wrap, IntKind.bits, IntKind.signed]; omega
theorem w_u32 {z : Int} (h : 0 ≤ z ∧ z ≤ 4294967295) : IntKind.u32.wrap z = z := by simp [IntKind.wrap, IntKind.bits, IntKind.signed]; omega
theorem w_u64 {z : Int} (h : 0 ≤ z ∧ z ≤ 18446744073709551615) : IntKind.u64.wrap z = z := by simp [IntKind.wrap, IntKind.bits, IntKind.signed]; omega
theorem m_u8 (z : Int) : IntKind.u8.wrap z = z % 256 := by simp [IntKind.wrap, IntKind.bits, IntKind.signed]
theorem m_u16 (z : Int) : IntKind.u16.wrap z = z % 65536 := by simp [IntKind.wrap, IntKind.bits, IntKind.signed]
theorem m_u32 (z : Int) : IntKind.u32.wrap z = z % 4294967296 := by simp [IntKind.wrap, IntKind.bits, IntKind.signed]
theorem m_u64 (z : Int) : IntKind.u64.wrap z = z % 18446744073709551616 := by simp [IntKind.wrap, IntKind.bits, IntKind.signed]

def zeroL (P : Program) (t : TypeId) : Option (List Value) := ((P.info? t).bind (·.zero)).map (·.cells.toList)
theorem zeroL_some {P : Program} {t : TypeId} {cs : List Value} (h : zeroL P t = some cs) : ∃ z, (P.info? t).bind (·.zero) = some z ∧ z.cells = cs.toArray := by
  obtain ⟨z, hz, rfl⟩ := Option.map_eq_some_iff.1 h
  exact ⟨z, hz, by simp⟩
/-- An element of one cell: its zero value, its bytes. -/
def elemInfo (P : Program) (e : TypeId) : Option (Value × Nat) :=
  match P.info? e with
  | some i => (match i.zero with
    | some z => (match z.cells.toList, i.size == 1 with
      | [c], true => some (c, i.bytes)
      | _, _ => none)
    | none => none)
  | none => none
theorem elemInfo_some {P : Program} {e : TypeId} {c : Value} {b : Nat} (h : elemInfo P e = some (c, b)) : ∃ i z, P.info? e = some i ∧ i.zero = some z ∧ z.cells = #[c] ∧ i.size = 1 ∧ i.bytes = b := by
  unfold elemInfo at h
  cases hi : P.info? e with
  | none => simp [hi] at h
  | some i =>
    simp only [hi] at h
    cases hz : i.zero with
    | none => simp [hz] at h
    | some z =>
      simp only [hz] at h
      split at h
      · rename_i c' hl hs
        simp only [Option.some.injEq, Prod.mk.injEq] at h
        obtain ⟨rfl, rfl⟩ := h
        refine ⟨i, z, rfl, hz, ?_, by simpa using hs, rfl⟩
        apply Array.ext'
        simpa using hl
      · cases h

theorem rng_i64 (b : UInt8) : (-9223372036854775808 : Int) ≤ b.toNat ∧ (b.toNat : Int) ≤ 9223372036854775807 := by have := b.toNat_lt; omega
theorem rng_i32 (b : UInt8) : (-2147483648 : Int) ≤ b.toNat ∧ (b.toNat : Int) ≤ 2147483647 := by have := b.toNat_lt; omega
theorem rng_u8 (b : UInt8) : (0 : Int) ≤ b.toNat ∧ (b.toNat : Int) ≤ 255 := by have := b.toNat_lt; omega
theorem rng_u16 (b : UInt8) : (0 : Int) ≤ b.toNat ∧ (b.toNat : Int) ≤ 65535 := by have := b.toNat_lt; omega
theorem rng_u32 (b : UInt8) : (0 : Int) ≤ b.toNat ∧ (b.toNat : Int) ≤ 4294967295 := by have := b.toNat_lt; omega
theorem rng_u64 (b : UInt8) : (0 : Int) ≤ b.toNat ∧ (b.toNat : Int) ≤ 18446744073709551615 := by have := b.toNat_lt; omega
section steps
variable {P : Program} {n : Nat} {ops : Array Oper} {Q : Post} {rest : List Oper} {ρ : Env} {w : World} {ty : TypeId} {pos : String} {af : Array Edge} {d : Nat}

theorem mv {x : Operand} {v : Value} (hx : ev ρ x = v) (hn : Nat.blt d n = true) (k : wl P n ops Q rest (upd ρ d v) w) : wl P n ops Q (⟨some d, .move x, ty, pos, af, none⟩ :: rest) ρ w :=
  val rfl rfl hn (by simp [execOp, hx]) k
theorem asg {x : Operand} {v : Value} (hx : ev ρ x = v) (hn : Nat.blt d n = true) (k : wl P n ops Q rest (upd ρ d v) w) : wl P n ops Q (⟨some d, .assign x, ty, pos, af, none⟩ :: rest) ρ w :=
  val rfl rfl hn (by simp [execOp, hx]) k
theorem pkT {c x y : Operand} {v : Value} (hc : ev ρ c = .bool true) (hx : ev ρ x = v) (hn : Nat.blt d n = true) (k : wl P n ops Q rest (upd ρ d v) w) : wl P n ops Q (⟨some d, .pick c x y, ty, pos, af, none⟩ :: rest) ρ w :=
  val rfl rfl hn (by simp [execOp, hc, hx, asBool]) k
theorem pkF {c x y : Operand} {v : Value} (hc : ev ρ c = .bool false) (hy : ev ρ y = v) (hn : Nat.blt d n = true) (k : wl P n ops Q rest (upd ρ d v) w) : wl P n ops Q (⟨some d, .pick c x y, ty, pos, af, none⟩ :: rest) ρ w :=
  val rfl rfl hn (by simp [execOp, hc, hy, asBool]) k

/-! #### whole numbers -/
section arith
variable {t u : TypeId} {x y : Operand} {k : IntKind} {a b c : Int}
theorem add (hx : ev ρ x = .int k a) (hy : ev ρ y = .int k b) (hc : k.wrap (a + b) = c) (hn : Nat.blt d n = true) (kk : wl P n ops Q rest (upd ρ d (.int k c)) w) : wl P n ops Q (⟨some d, .binOp .add t x y u, ty, pos, af, none⟩ :: rest) ρ w :=
  val rfl rfl hn (by subst hc; simp [execOp, hx, hy, go_sem]) kk
theorem sub (hx : ev ρ x = .int k a) (hy : ev ρ y = .int k b) (hc : k.wrap (a - b) = c) (hn : Nat.blt d n = true) (kk : wl P n ops Q rest (upd ρ d (.int k c)) w) : wl P n ops Q (⟨some d, .binOp .sub t x y u, ty, pos, af, none⟩ :: rest) ρ w :=
  val rfl rfl hn (by subst hc; simp [execOp, hx, hy, go_sem]) kk
theorem mul (hx : ev ρ x = .int k a) (hy : ev ρ y = .int k b) (hc : k.wrap (a * b) = c) (hn : Nat.blt d n = true) (kk : wl P n ops Q rest (upd ρ d (.int k c)) w) : wl P n ops Q (⟨some d, .binOp .mul t x y u, ty, pos, af, none⟩ :: rest) ρ w :=
  val rfl rfl hn (by subst hc; simp [execOp, hx, hy, go_sem]) kk
theorem quo (hx : ev ρ x = .int k a) (hy : ev ρ y = .int k b) (h0 : 0 ≤ a) (hb : 0 < b) (hc : k.wrap (a / b) = c) (hn : Nat.blt d n = true) (kk : wl P n ops Q rest (upd ρ d (.int k c)) w) : wl P n ops Q (⟨some d, .binOp .quo t x y u, ty, pos, af, none⟩ :: rest) ρ w :=
  val rfl rfl hn (by
    subst hc
    have hb' : ¬ b = 0 := by omega
    simp [execOp, hx, hy, eqGuard_quo, binOp_quo, Op.intDiv, hb', Int.tdiv_eq_ediv_of_nonneg h0]) kk
theorem rem (hx : ev ρ x = .int k a) (hy : ev ρ y = .int k b) (h0 : 0 ≤ a) (hb : 0 < b) (hc : a % b = c) (hn : Nat.blt d n = true) (kk : wl P n ops Q rest (upd ρ d (.int k c)) w) : wl P n ops Q (⟨some d, .binOp .rem t x y u, ty, pos, af, none⟩ :: rest) ρ w :=
  val rfl rfl hn (by
    subst hc
    have hb' : ¬ b = 0 := by omega
    simp [execOp, hx, hy, eqGuard_rem, binOp_rem, Op.intDiv, hb', Int.tmod_eq_emod_of_nonneg h0]) kk
theorem band (hx : ev ρ x = .int k a) (hy : ev ρ y = .int k b) (hc : bits .and k a b = c) (hn : Nat.blt d n = true) (kk : wl P n ops Q rest (upd ρ d (.int k c)) w) : wl P n ops Q (⟨some d, .binOp .and t x y u, ty, pos, af, none⟩ :: rest) ρ w :=
  val rfl rfl hn (by subst hc; simp [execOp, hx, hy, eqGuard_and, binOp_and, intBits_and]) kk
theorem bor (hx : ev ρ x = .int k a) (hy : ev ρ y = .int k b) (hc : bits .or k a b = c) (hn : Nat.blt d n = true) (kk : wl P n ops Q rest (upd ρ d (.int k c)) w) : wl P n ops Q (⟨some d, .binOp .or t x y u, ty, pos, af, none⟩ :: rest) ρ w :=
  val rfl rfl hn (by subst hc; simp [execOp, hx, hy, eqGuard_or, binOp_or, intBits_or]) kk
theorem bxor (hx : ev ρ x = .int k a) (hy : ev ρ y = .int k b) (hc : bits .xor k a b = c) (hn : Nat.blt d n = true) (kk : wl P n ops Q rest (upd ρ d (.int k c)) w) : wl P n ops Q (⟨some d, .binOp .xor t x y u, ty, pos, af, none⟩ :: rest) ρ w :=
  val rfl rfl hn (by subst hc; simp [execOp, hx, hy, eqGuard_xor, binOp_xor, intBits_xor]) kk
theorem bandnot (hx : ev ρ x = .int k a) (hy : ev ρ y = .int k b) (hc : bits .andNot k a b = c) (hn : Nat.blt d n = true) (kk : wl P n ops Q rest (upd ρ d (.int k c)) w) : wl P n ops Q (⟨some d, .binOp .andNot t x y u, ty, pos, af, none⟩ :: rest) ρ w :=
  val rfl rfl hn (by subst hc; simp [execOp, hx, hy, eqGuard_andNot, binOp_andNot, intBits_andNot]) kk
theorem shl {yk : IntKind} (hx : ev ρ x = .int k a) (hy : ev ρ y = .int yk b) (h0 : 0 ≤ b) (hc : k.wrap (a * 2 ^ (min b.toNat k.bits)) = c) (hn : Nat.blt d n = true) (kk : wl P n ops Q rest (upd ρ d (.int k c)) w) : wl P n ops Q (⟨some d, .binOp .shl t x y u, ty, pos, af, none⟩ :: rest) ρ w :=
  val rfl rfl hn (by
    subst hc
    have : ¬ b < 0 := by omega
    simp [execOp, hx, hy, eqGuard_shl, binOp_shl, Op.shift, this]) kk
theorem shr {yk : IntKind} (hx : ev ρ x = .int k a) (hy : ev ρ y = .int yk b) (h0 : 0 ≤ b) (hc : a / 2 ^ (min b.toNat k.bits) = c) (hn : Nat.blt d n = true) (kk : wl P n ops Q rest (upd ρ d (.int k c)) w) : wl P n ops Q (⟨some d, .binOp .shr t x y u, ty, pos, af, none⟩ :: rest) ρ w :=
  val rfl rfl hn (by
    subst hc
    have : ¬ b < 0 := by omega
    have e : a.fdiv (2 ^ (min b.toNat k.bits)) = a / 2 ^ (min b.toNat k.bits) := Int.fdiv_eq_ediv_of_nonneg _ (by exact Int.le_of_lt (Int.pow_pos (by decide)))
    simp [execOp, hx, hy, eqGuard_shr, binOp_shr, Op.shift, this, e]) kk
theorem eql (hx : ev ρ x = .int k a) (hy : ev ρ y = .int k b) (hn : Nat.blt d n = true) (kk : wl P n ops Q rest (upd ρ d (.bool (decide (a = b)))) w) : wl P n ops Q (⟨some d, .binOp .eql t x y u, ty, pos, af, none⟩ :: rest) ρ w :=
  val rfl rfl hn (by simp [execOp, hx, hy, eqGuard_at_int, binOp_eql]; rfl) kk
theorem neq (hx : ev ρ x = .int k a) (hy : ev ρ y = .int k b) (hn : Nat.blt d n = true) (kk : wl P n ops Q rest (upd ρ d (.bool (decide (a ≠ b)))) w) : wl P n ops Q (⟨some d, .binOp .neq t x y u, ty, pos, af, none⟩ :: rest) ρ w :=
  val rfl rfl hn (by
    have : (a != b) = decide (a ≠ b) := by rw [Bool.eq_iff_iff]; simp
    simp [execOp, hx, hy, eqGuard_at_int, binOp_neq, this]) kk
theorem lss (hx : ev ρ x = .int k a) (hy : ev ρ y = .int k b) (hn : Nat.blt d n = true) (kk : wl P n ops Q rest (upd ρ d (.bool (decide (a < b)))) w) : wl P n ops Q (⟨some d, .binOp .lss t x y u, ty, pos, af, none⟩ :: rest) ρ w :=
  val rfl rfl hn (by simp [execOp, hx, hy, eqGuard_at_int, binOp_lss]) kk
theorem leq (hx : ev ρ x = .int k a) (hy : ev ρ y = .int k b) (hn : Nat.blt d n = true) (kk : wl P n ops Q rest (upd ρ d (.bool (decide (a ≤ b)))) w) : wl P n ops Q (⟨some d, .binOp .leq t x y u, ty, pos, af, none⟩ :: rest) ρ w :=
  val rfl rfl hn (by simp [execOp, hx, hy, eqGuard_at_int, binOp_leq]) kk
theorem gtr (hx : ev ρ x = .int k a) (hy : ev ρ y = .int k b) (hn : Nat.blt d n = true) (kk : wl P n ops Q rest (upd ρ d (.bool (decide (b < a)))) w) : wl P n ops Q (⟨some d, .binOp .gtr t x y u, ty, pos, af, none⟩ :: rest) ρ w :=
  val rfl rfl hn (by simp [execOp, hx, hy, eqGuard_at_int, binOp_gtr]) kk
theorem geq (hx : ev ρ x = .int k a) (hy : ev ρ y = .int k b) (hn : Nat.blt d n = true) (kk : wl P n ops Q rest (upd ρ d (.bool (decide (b ≤ a)))) w) : wl P n ops Q (⟨some d, .binOp .geq t x y u, ty, pos, af, none⟩ :: rest) ρ w :=
  val rfl rfl hn (by simp [execOp, hx, hy, eqGuard_at_int, binOp_geq]) kk
end arith
theorem unot {t : TypeId} {x : Operand} {b : Bool} (hx : ev ρ x = .bool b) (hn : Nat.blt d n = true) (kk : wl P n ops Q rest (upd ρ d (.bool (!b))) w) : wl P n ops Q (⟨some d, .unOp .not t x, ty, pos, af, none⟩ :: rest) ρ w :=
  val rfl rfl hn (by simp [execOp, hx, Op.unary]) kk
theorem eqlB {t u : TypeId} {x y : Operand} {a b : Bool} (hx : ev ρ x = .bool a) (hy : ev ρ y = .bool b) (hu : P.underlying t = some .bool) (hn : Nat.blt d n = true) (kk : wl P n ops Q rest (upd ρ d (.bool (decide (a = b)))) w) : wl P n ops Q (⟨some d, .binOp .eql t x y u, ty, pos, af, none⟩ :: rest) ρ w :=
  val rfl rfl hn (by
    have : (a == b) = decide (a = b) := by cases a <;> cases b <;> rfl
    have hr : (Op.equal t (.bool a) (.bool b)).run P w = .ok (a == b) w := by
      unfold Op.equal
      rw [show Op.maxDepth = 9999 + 1 from rfl, Op.equalIn]
      simp [run_underlying hu]
    simp only [execOp, hx, hy, eqGuard_at_bool, binOp]
    simp [hr, this]) kk
/-- A number to another kind. -/
theorem cvi {s t : TypeId} {x : Operand} {j k : IntKind} {a c : Int} (hx : ev ρ x = .int j a) (hs : (P.underlying s).isSome = true) (ht : P.underlying t = some (.int k)) (hc : k.wrap a = c) (hn : Nat.blt d n = true) (kk : wl P n ops Q rest (upd ρ d (.int k c)) w) : wl P n ops Q (⟨some d, .convert s t x, ty, pos, af, none⟩ :: rest) ρ w :=
  val rfl rfl hn (by
    subst hc
    obtain ⟨u, hu⟩ := Option.isSome_iff_exists.1 hs
    simp [execOp, hx, convert, run_underlying hu, run_underlying ht, Conv.intToInt]) kk
/-- A string to a string. -/
theorem cvs {s t : TypeId} {x : Operand} {a : ByteArray} (hx : ev ρ x = .string a) (hs : P.underlying s = some .string) (ht : P.underlying t = some .string) (hn : Nat.blt d n = true) (kk : wl P n ops Q rest (upd ρ d (.string a)) w) : wl P n ops Q (⟨some d, .convert s t x, ty, pos, af, none⟩ :: rest) ρ w :=
  val rfl rfl hn (by simp [execOp, hx, convert, run_underlying hs, run_underlying ht]) kk

/-! #### pointers, fields, elements -/
theorem nc {x : Operand} {a : Addr} (hx : ev ρ x = .pointer (some a)) (hn : Nat.blt d n = true) (kk : wl P n ops Q rest (upd ρ d (.pointer (some a))) w) : wl P n ops Q (⟨some d, .nilCheck x, ty, pos, af, none⟩ :: rest) ρ w :=
  val rfl rfl hn (by simp [execOp, hx]) kk
theorem nci {x : Operand} {t : TypeId} {v : Value} (hx : ev ρ x = .iface t v) (hn : Nat.blt d n = true) (kk : wl P n ops Q rest (upd ρ d (.iface t v)) w) : wl P n ops Q (⟨some d, .nilCheck x, ty, pos, af, none⟩ :: rest) ρ w :=
  val rfl rfl hn (by simp [execOp, hx]) kk
theorem fieldOff_run {s f o : Nat} {a : Addr} (h : fieldOff P s f = some o) : (Instr.fieldAt s (.pointer (some a)) f).run P w = .ok (.pointer (some (a.add o))) w := by
  unfold fieldOff at h
  cases hu : P.underlying s with
  | none => simp [hu] at h
  | some u =>
    cases u <;> simp [hu] at h
    rename_i fs
    cases hf : fs[f]? with
    | none => simp [hf] at h
    | some fd =>
      simp only [hf] at h
      cases hi : P.info? fd.type with
      | none => simp [hi] at h
      | some i =>
        simp only [hi] at h
        by_cases hz : i.size = 0
        · simp [hz] at h
        · simp only [hz, if_false, Option.some.injEq] at h
          subst h
          have hs : sizeB P fd.type i.size = true := by simp [sizeB, hi]
          simp [Instr.fieldAt, run_underlying hu, hf, Instr.sureAddr, fieldPlace, run_sizeOf hs, hz]
theorem fa {s f o b k : Nat} {x : Operand} (hx : ev ρ x = .pointer (some ⟨b, o, none⟩)) (hf : fieldOff P s f = some k) (hn : Nat.blt d n = true) (kk : wl P n ops Q rest (upd ρ d (.pointer (some ⟨b, o + k, none⟩))) w) : wl P n ops Q (⟨some d, .fieldAddr s x f, ty, pos, af, none⟩ :: rest) ρ w :=
  val rfl rfl hn (by simp [execOp, hx, fieldOff_run hf, Addr.add_lit]) kk
/-- The address of a slice's element. -/
theorem ia {t e : TypeId} {x i : Operand} {b o len cap sz : Nat} {j : IntKind} {z : Int} (hx : ev ρ x = .slice (some ⟨b, o, none⟩) len cap) (hi : ev ρ i = .int j z) (hu : P.underlying t = some (.slice e)) (hs : sizeB P e sz = true) (hz : 0 ≤ z ∧ z < len) (hn : Nat.blt d n = true) (kk : wl P n ops Q rest (upd ρ d (.pointer (some ⟨b, o + z.toNat * sz, none⟩))) w) : wl P n ops Q (⟨some d, .indexAddr t x i, ty, pos, af, none⟩ :: rest) ρ w :=
  val rfl rfl hn (by simp [execOp, hx, hi, Instr.indexAt, asIntOf, run_underlying hu, hz.1, hz.2, run_sizeOf hs, Addr.add_lit]) kk
/-- .. whose address may be any. -/
theorem iA {t e : TypeId} {x i : Operand} {ad : Addr} {len cap : Nat} {j : IntKind} {z : Int} (hx : ev ρ x = .slice (some ad) len cap) (hi : ev ρ i = .int j z) (hu : P.underlying t = some (.slice e)) (hs : sizeB P e 1 = true) (hz : 0 ≤ z ∧ z < len) (hn : Nat.blt d n = true) (kk : wl P n ops Q rest (upd ρ d (.pointer (some (ad.add z.toNat)))) w) : wl P n ops Q (⟨some d, .indexAddr t x i, ty, pos, af, none⟩ :: rest) ρ w :=
  val rfl rfl hn (by simp [execOp, hx, hi, Instr.indexAt, asIntOf, run_underlying hu, hz.1, hz.2, run_sizeOf hs]) kk
/-- The address of an array's element. -/
theorem iy {t e : TypeId} {x i : Operand} {b o len sz : Nat} {j : IntKind} {z : Int} (hx : ev ρ x = .pointer (some ⟨b, o, none⟩)) (hi : ev ρ i = .int j z) (hu : P.underlying t = some (.array len e)) (hs : sizeB P e sz = true) (hz : 0 ≤ z ∧ z < len) (hn : Nat.blt d n = true) (kk : wl P n ops Q rest (upd ρ d (.pointer (some ⟨b, o + z.toNat * sz, none⟩))) w) : wl P n ops Q (⟨some d, .indexAddr t x i, ty, pos, af, none⟩ :: rest) ρ w :=
  val rfl rfl hn (by simp [execOp, hx, hi, Instr.indexAt, asIntOf, run_underlying hu, hz.1, hz.2, run_sizeOf hs, Addr.add_lit, Instr.sureAddr]) kk

/-! #### memory -/
section mem
variable {w0 : World} {S : List Nat} {L L' : List Ent} {t : TypeId} {x y : Operand} {b o f1 f2 : Nat} {cs : List Value} {T : TypeId}
theorem ld {fr : Nat × Nat} {v : Value} (H : SH w0 S w L) (hx : ev ρ x = .pointer (some ⟨b, o, none⟩)) [Look L b (.cells cs.toArray T fr)] (hs : scalarB P t = true) (hv : cs[o]? = some v) (hn : Nat.blt d n = true) (kk : wl P n ops Q rest (upd ρ d v) w) : wl P n ops Q (⟨some d, .load t x, ty, pos, af, none⟩ :: rest) ρ w :=
  val rfl rfl hn (by
    have := H.look (b := b) (o := .cells cs.toArray T fr)
    simp [execOp, hx, Instr.loadAt, Instr.sureAddr, run_loadVar_scalar hs ((cell_at this).trans hv)]) kk
theorem lc {ad : Addr} {v : Value} (hx : ev ρ x = .pointer (some ad)) (hc : w.cell? ad = some v) (hs : scalarB P t = true) (hn : Nat.blt d n = true) (kk : wl P n ops Q rest (upd ρ d v) w) : wl P n ops Q (⟨some d, .load t x, ty, pos, af, none⟩ :: rest) ρ w :=
  val rfl rfl hn (by simp [execOp, hx, Instr.loadAt, Instr.sureAddr, run_loadVar_scalar hs hc]) kk
/-- A whole struct or array is read. -/
theorem la {fr : Nat × Nat} {m : Nat} {vs : List Value} (H : SH w0 S w L) (hx : ev ρ x = .pointer (some ⟨b, o, none⟩)) [Look L b (.cells cs.toArray T fr)] (hs : aggB P t m = true) (hm : vs.length = m) (hv : (cs.drop o).take m = vs) (hn : Nat.blt d n = true) (kk : wl P n ops Q rest (upd ρ d (.agg vs.toArray)) w) : wl P n ops Q (⟨some d, .load t x, ty, pos, af, none⟩ :: rest) ρ w :=
  val rfl rfl hn (by
    have := H.look (b := b) (o := .cells cs.toArray T fr)
    have hl := run_loadVar_agg (P := P) (w := w) (a := ⟨b, o, none⟩) hs hm (fun j v hj => by
      rw [Addr.add_lit, cell_at this]
      rw [← hv, List.getElem?_take, List.getElem?_drop] at hj
      split at hj
      · exact hj
      · cases hj)
    simp [execOp, hx, Instr.loadAt, Instr.sureAddr, hl]) kk
theorem st {v : Value} (H : SH w0 S w L) (hx : ev ρ x = .pointer (some ⟨b, o, none⟩)) (hy : ev ρ y = v) [Look L b (.cells cs.toArray T (f1, f2))] (hs : scalarB P t = true) (h1 : v.oneCell' = true) (ho : o < cs.length) (hf : f2 ≤ o ∨ o < f1)
    [tn : Turn L b (.cells (cs.set o v).toArray T (f1, f2)) L'] (kk : ∀ w', SH w0 S w' L' → Fr [b] w w' → wl P n ops Q rest ρ w') : wl P n ops Q (⟨none, .store t x y, ty, pos, af, none⟩ :: rest) ρ w := by
  have hL := H.look (b := b) (o := .cells cs.toArray T (f1, f2))
  obtain ⟨h2, f2'⟩ := heap_setCells [v] o w b cs T (f1, f2) hL (by simp; omega)
  refine unt rfl rfl (w' := w.setCells b o [v]) ?_ (kk _ (H.put (b := b) (o' := .cells (cs.set o v).toArray T (f1, f2)) f2' ?_) f2')
  · simp [execOp, hx, hy, Instr.storeAt, Instr.sureAddr, run_storeVar_scalar hs hL ho hf h1]
  · rw [h2]
    congr 2
    rw [List.set_eq_take_append_cons_drop, if_pos ho]
    simp
/-- A whole struct or array is written. -/
theorem sa {m : Nat} {vs : List Value} (H : SH w0 S w L) (hx : ev ρ x = .pointer (some ⟨b, o, none⟩)) (hy : ev ρ y = .agg vs.toArray) [Look L b (.cells cs.toArray T (f1, f2))] (hs : aggB P t m = true) (hm : vs.length = m) (h1 : vs.all Value.oneCell' = true) (ho : o + m ≤ cs.length) (hf : f2 ≤ o ∨ o + m ≤ f1) {cs' : List Value} (hcs : cs.take o ++ vs ++ cs.drop (o + m) = cs')
    [tn : Turn L b (.cells cs'.toArray T (f1, f2)) L'] (kk : ∀ w', SH w0 S w' L' → Fr [b] w w' → wl P n ops Q rest ρ w') : wl P n ops Q (⟨none, .store t x y, ty, pos, af, none⟩ :: rest) ρ w := by
  have hL := H.look (b := b) (o := .cells cs.toArray T (f1, f2))
  subst hm
  subst hcs
  obtain ⟨h2, f2'⟩ := heap_setCells vs o w b cs T (f1, f2) hL (by omega)
  refine unt rfl rfl (w' := w.setCells b o vs) ?_ (kk _ (H.put (b := b) (o' := .cells (cs.take o ++ vs ++ cs.drop (o + vs.length)).toArray T (f1, f2)) f2' h2) f2')
  simp only [execOp, hx, hy, Instr.storeAt, Instr.sureAddr]
  have := run_storeVar_agg hs rfl hL ho hf (List.all_eq_true.1 h1)
  simp [this]
/-- A new variable. -/
theorem al {cs : List Value} (H : SH w0 S w L) (hz : zeroL P t = some cs) (hn : Nat.blt d n = true)
    (kk : ∀ b w', w.heap.size ≤ b → SH w0 S w' (⟨b, .cells cs.toArray t (0, 0), true⟩ :: L) → Fr [] w w' → wl P n ops Q rest (upd ρ d (.pointer (some ⟨b, 0, none⟩))) w') : wl P n ops Q (⟨some d, .alloc t, ty, pos, af, none⟩ :: rest) ρ w := by
  obtain ⟨z, hz', hc⟩ := zeroL_some hz
  refine val rfl rfl hn (w' := w.alloc (.cells cs.toArray t)) (v := .pointer (some ⟨w.heap.size, 0, none⟩)) ?_ (kk _ _ (Nat.le_refl _) (H.new (Fr.alloc _ _) (Nat.le_refl _) (heap_alloc_new _ _)) (Fr.alloc _ _))
  simp [execOp, Instr.alloc, run_zeroValue hz', newVar, newRow, hc]
/-- A new variable that holds a value. -/
theorem bx {v : Value} {cs : List Value} (H : SH w0 S w L) (hx : ev ρ x = v) (hc : v.cells = cs.toArray) (hn : Nat.blt d n = true)
    (kk : ∀ b w', w.heap.size ≤ b → SH w0 S w' (⟨b, .cells cs.toArray t (0, 0), true⟩ :: L) → Fr [] w w' → wl P n ops Q rest (upd ρ d (.pointer (some ⟨b, 0, none⟩))) w') : wl P n ops Q (⟨some d, .box t x, ty, pos, af, none⟩ :: rest) ρ w := by
  refine val rfl rfl hn (w' := w.alloc (.cells cs.toArray t)) (v := .pointer (some ⟨w.heap.size, 0, none⟩)) ?_ (kk _ _ (Nat.le_refl _) (H.new (Fr.alloc _ _) (Nat.le_refl _) (heap_alloc_new _ _)) (Fr.alloc _ _))
  simp [execOp, hx, Instr.box, newVar, newRow, hc]
/-- make([]T, n). -/
theorem mk {e : TypeId} {zc : Value} {by_ : Nat} {m c : Int} {k1 k2 : IntKind} (H : SH w0 S w L) (hx : ev ρ x = .int k1 m) (hy : ev ρ y = .int k2 c) (hu : P.underlying t = some (.slice e)) (he : elemInfo P e = some (zc, by_))
    (h0 : 0 ≤ m) (hmc : m ≤ c) (hb : (by_ : Int) * c ≤ 140737488355328) (hc : c ≤ 9223372036854775807) (hn : Nat.blt d n = true)
    (kk : ∀ b w', w.heap.size ≤ b → SH w0 S w' (⟨b, .cells (List.replicate c.toNat zc).toArray e (0, 0), true⟩ :: L) → Fr [] w w' → wl P n ops Q rest (upd ρ d (.slice (some ⟨b, 0, none⟩) m.toNat c.toNat)) w') : wl P n ops Q (⟨some d, .makeSlice t x y, ty, pos, af, none⟩ :: rest) ρ w := by
  obtain ⟨i, z, hi, hz, hz1, hi1, rfl⟩ := elemInfo_some he
  have hr := run_make (P := P) w t e i z hu hi hz k1 k2 m c h0 hmc (by omega) hc
  have hcells : madeCells z.cells (c.toNat * i.size) = (List.replicate c.toNat zc).toArray := by
    rw [hz1, hi1]
    apply Array.ext'
    simp only [madeCells, Nat.mul_one]
    apply List.ext_getElem
    · simp
    · intro j h1 h2
      simp [Nat.mod_one]
  rw [hcells] at hr
  refine val rfl rfl hn (w' := w.alloc (.cells (List.replicate c.toNat zc).toArray e)) (v := .slice (some ⟨w.heap.size, 0, none⟩) m.toNat c.toNat) ?_ (kk _ _ (Nat.le_refl _) (H.new (Fr.alloc _ _) (Nat.le_refl _) (heap_alloc_new _ _)) (Fr.alloc _ _))
  simp [execOp, hx, hy, hr]
end mem

/-! #### calls -/
def callable (P : Program) (f : FuncId) : Bool :=
  match P.funcs[f]? with
  | some fn => !(fn.name == "runtime.NumGoroutine") && fn.body.isSome
  | none => false
theorem run_callFunc {f : FuncId} {args : Array Value} (h : callable P f = true) : (callFunc f args).run P w = .ok (.enter f args) w := by
  unfold callable at h
  unfold callFunc
  cases hf : P.funcs[f]? with
  | none => simp [hf] at h
  | some fn =>
    simp only [hf, Bool.and_eq_true, Bool.not_eq_true'] at h
    have h2 : fn.body ≠ none := by intro e; simp [e] at h
    have h1 : fn.name ≠ "runtime.NumGoroutine" := by intro e; simp [e] at h
    simp [hf, h1, h2]
theorem enterC {o : Oper} {f : FuncId} {args : Array Value} {φ : Value → World → Prop} (hg : o.guard = none) (hd : o.dst = some d) (hn : Nat.blt d n = true)
    (hr : (execOp (ev ρ) o).run P w = .ok (.enter f args) w) (hc : Calls P f args w (Ret φ)) (k : ∀ v w', φ v w' → wl P n ops Q rest (upd ρ d v) w') : wl P n ops Q (o :: rest) ρ w := by
  intro a h1 h2 he
  refine wpList_plain hg fun K hK => ?_
  unfold Oper.wp
  rw [eval_envOf, he, hr, Oper.upon_enter]
  refine hc.mono fun e w' r => ?_
  have hlt : d < n := by simpa [Nat.blt_eq] using hn
  cases e with
  | returned v =>
    rw [hd]
    exact hK _ _ (k v w' r _ (by rw [defers_put, h1]) (by rw [size_put, h2]) (by rw [envOf_put _ _ _ (by omega), he]))
  | _ => exact r.elim
theorem enterC0 {o : Oper} {f : FuncId} {args : Array Value} {φ : Value → World → Prop} (hg : o.guard = none) (hd : o.dst = none)
    (hr : (execOp (ev ρ) o).run P w = .ok (.enter f args) w) (hc : Calls P f args w (Ret φ)) (k : ∀ v w', φ v w' → wl P n ops Q rest ρ w') : wl P n ops Q (o :: rest) ρ w := by
  intro a h1 h2 he
  refine wpList_plain hg fun K hK => ?_
  unfold Oper.wp
  rw [eval_envOf, he, hr, Oper.upon_enter]
  refine hc.mono fun e w' r => ?_
  cases e with
  | returned v =>
    rw [hd]
    exact hK _ _ (k v w' r _ h1 h2 he)
  | _ => exact r.elim
theorem run_call {f : FuncId} {xs : List Operand} {ts : Array TypeId} {dd : Option Nat} (hf : callable P f = true) :
    (execOp (ev ρ) ⟨dd, .call { callee := .value (.func f), args := xs.toArray, argTypes := ts }, ty, pos, af, none⟩).run P w = .ok (.enter f (xs.map (ev ρ)).toArray) w := by
  simp [execOp, resolve, Deferred.ofValue, ev, invoke, run_callFunc hf]
theorem cl {f : FuncId} {xs : List Operand} {ts : Array TypeId} {φ : Value → World → Prop} (hf : callable P f = true) (hc : Calls P f (xs.map (ev ρ)).toArray w (Ret φ)) (hn : Nat.blt d n = true)
    (k : ∀ v w', φ v w' → wl P n ops Q rest (upd ρ d v) w') : wl P n ops Q (⟨some d, .call { callee := .value (.func f), args := xs.toArray, argTypes := ts }, ty, pos, af, none⟩ :: rest) ρ w :=
  enterC rfl rfl hn (run_call hf) hc k
theorem cl0 {f : FuncId} {xs : List Operand} {ts : Array TypeId} {φ : Value → World → Prop} (hf : callable P f = true) (hc : Calls P f (xs.map (ev ρ)).toArray w (Ret φ))
    (k : ∀ v w', φ v w' → wl P n ops Q rest ρ w') : wl P n ops Q (⟨none, .call { callee := .value (.func f), args := xs.toArray, argTypes := ts }, ty, pos, af, none⟩ :: rest) ρ w :=
  enterC0 rfl rfl (run_call hf) hc k
theorem xt {x : Operand} {vs : List Value} {i : Nat} {v : Value} (hx : ev ρ x = .tuple vs.toArray) (hv : vs[i]? = some v) (hn : Nat.blt d n = true) (k : wl P n ops Q rest (upd ρ d v) w) : wl P n ops Q (⟨some d, .extract x i, ty, pos, af, none⟩ :: rest) ρ w :=
  val rfl rfl hn (by simp [execOp, hx, Instr.extract, hv]) k

/-! #### builtins -/
theorem lnS {t e : TypeId} {x : Operand} {A : Option Addr} {l c : Nat} (hx : ev ρ x = .slice A l c) (hu : P.underlying t = some (.slice e)) (hn : Nat.blt d n = true) (k : wl P n ops Q rest (upd ρ d (.int .i64 (l : Int))) w) : wl P n ops Q (⟨some d, .call { callee := .builtin .len, args := #[x], argTypes := #[t] }, ty, pos, af, none⟩ :: rest) ρ w :=
  val rfl rfl hn (by simp [execOp, resolve, invoke, builtin, hx, Builtin.len_, run_underlying hu, goInt]) k
theorem lnT {t : TypeId} {x : Operand} {s : ByteArray} (hx : ev ρ x = .string s) (hu : P.underlying t = some .string) (hn : Nat.blt d n = true) (k : wl P n ops Q rest (upd ρ d (.int .i64 (s.size : Int))) w) : wl P n ops Q (⟨some d, .call { callee := .builtin .len, args := #[x], argTypes := #[t] }, ty, pos, af, none⟩ :: rest) ρ w :=
  val rfl rfl hn (by simp [execOp, resolve, invoke, builtin, hx, Builtin.len_, run_underlying hu, goInt]) k
end steps

end Go.Proofs.YtgmkjndmjnbahaaDoor.X
