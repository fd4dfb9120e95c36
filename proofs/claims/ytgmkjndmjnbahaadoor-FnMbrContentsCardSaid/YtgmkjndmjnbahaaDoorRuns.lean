/- What the operations that only look give: for regions whose order is open. (Printed out of Steps and Steps2 by mkruns.py.) -/
import Derived.Test.YtgmkjndmjnbahaaDoorDraw
import Derived.Test.YtgmkjndmjnbahaaDoorSteps3
import Derived.Test.YtgmkjndmjnbahaaDoorSteps4
namespace Go.Proofs.YtgmkjndmjnbahaaDoor.X
set_option linter.unusedVariables false
open Go Go.RowKit
section
variable {P : Program} {ρ : Env} {w : World} {ty : TypeId} {pos : String} {af : Array Edge} {dd : Option Nat} {gg : Option (Nat × Bool)}
section
variable {t u : TypeId} {x y : Operand} {k : IntKind} {a b c : Int}
theorem r_add (hx : ev ρ x = .int k a) (hy : ev ρ y = .int k b) (hc : k.wrap (a + b) = c) : (execOp (ev ρ) ⟨dd, .binOp .add t x y u, ty, pos, af, gg⟩).run P w = .ok (.value ((.int k c))) w := by subst hc; simp [execOp, hx, hy, go_sem]
theorem r_sub (hx : ev ρ x = .int k a) (hy : ev ρ y = .int k b) (hc : k.wrap (a - b) = c) : (execOp (ev ρ) ⟨dd, .binOp .sub t x y u, ty, pos, af, gg⟩).run P w = .ok (.value ((.int k c))) w := by subst hc; simp [execOp, hx, hy, go_sem]
theorem r_mul (hx : ev ρ x = .int k a) (hy : ev ρ y = .int k b) (hc : k.wrap (a * b) = c) : (execOp (ev ρ) ⟨dd, .binOp .mul t x y u, ty, pos, af, gg⟩).run P w = .ok (.value ((.int k c))) w := by subst hc; simp [execOp, hx, hy, go_sem]
theorem r_quo (hx : ev ρ x = .int k a) (hy : ev ρ y = .int k b) (h0 : 0 ≤ a) (hb : 0 < b) (hc : k.wrap (a / b) = c) : (execOp (ev ρ) ⟨dd, .binOp .quo t x y u, ty, pos, af, gg⟩).run P w = .ok (.value ((.int k c))) w := by
    subst hc
    have hb' : ¬ b = 0 := by omega
    simp [execOp, hx, hy, eqGuard_quo, binOp_quo, Op.intDiv, hb', Int.tdiv_eq_ediv_of_nonneg h0]
theorem r_rem (hx : ev ρ x = .int k a) (hy : ev ρ y = .int k b) (h0 : 0 ≤ a) (hb : 0 < b) (hc : a % b = c) : (execOp (ev ρ) ⟨dd, .binOp .rem t x y u, ty, pos, af, gg⟩).run P w = .ok (.value ((.int k c))) w := by
    subst hc
    have hb' : ¬ b = 0 := by omega
    simp [execOp, hx, hy, eqGuard_rem, binOp_rem, Op.intDiv, hb', Int.tmod_eq_emod_of_nonneg h0]
theorem r_band (hx : ev ρ x = .int k a) (hy : ev ρ y = .int k b) (hc : bits .and k a b = c) : (execOp (ev ρ) ⟨dd, .binOp .and t x y u, ty, pos, af, gg⟩).run P w = .ok (.value ((.int k c))) w := by subst hc; simp [execOp, hx, hy, eqGuard_and, binOp_and, intBits_and]
theorem r_bor (hx : ev ρ x = .int k a) (hy : ev ρ y = .int k b) (hc : bits .or k a b = c) : (execOp (ev ρ) ⟨dd, .binOp .or t x y u, ty, pos, af, gg⟩).run P w = .ok (.value ((.int k c))) w := by subst hc; simp [execOp, hx, hy, eqGuard_or, binOp_or, intBits_or]
theorem r_bxor (hx : ev ρ x = .int k a) (hy : ev ρ y = .int k b) (hc : bits .xor k a b = c) : (execOp (ev ρ) ⟨dd, .binOp .xor t x y u, ty, pos, af, gg⟩).run P w = .ok (.value ((.int k c))) w := by subst hc; simp [execOp, hx, hy, eqGuard_xor, binOp_xor, intBits_xor]
theorem r_bandnot (hx : ev ρ x = .int k a) (hy : ev ρ y = .int k b) (hc : bits .andNot k a b = c) : (execOp (ev ρ) ⟨dd, .binOp .andNot t x y u, ty, pos, af, gg⟩).run P w = .ok (.value ((.int k c))) w := by subst hc; simp [execOp, hx, hy, eqGuard_andNot, binOp_andNot, intBits_andNot]
theorem r_shl {yk : IntKind} (hx : ev ρ x = .int k a) (hy : ev ρ y = .int yk b) (h0 : 0 ≤ b) (hc : k.wrap (a * 2 ^ (min b.toNat k.bits)) = c) : (execOp (ev ρ) ⟨dd, .binOp .shl t x y u, ty, pos, af, gg⟩).run P w = .ok (.value ((.int k c))) w := by
    subst hc
    have : ¬ b < 0 := by omega
    simp [execOp, hx, hy, eqGuard_shl, binOp_shl, Op.shift, this]
theorem r_shr {yk : IntKind} (hx : ev ρ x = .int k a) (hy : ev ρ y = .int yk b) (h0 : 0 ≤ b) (hc : a / 2 ^ (min b.toNat k.bits) = c) : (execOp (ev ρ) ⟨dd, .binOp .shr t x y u, ty, pos, af, gg⟩).run P w = .ok (.value ((.int k c))) w := by
    subst hc
    have : ¬ b < 0 := by omega
    have e : a.fdiv (2 ^ (min b.toNat k.bits)) = a / 2 ^ (min b.toNat k.bits) := Int.fdiv_eq_ediv_of_nonneg _ (by exact Int.le_of_lt (Int.pow_pos (by decide)))
    simp [execOp, hx, hy, eqGuard_shr, binOp_shr, Op.shift, this, e]
theorem r_eql (hx : ev ρ x = .int k a) (hy : ev ρ y = .int k b) : (execOp (ev ρ) ⟨dd, .binOp .eql t x y u, ty, pos, af, gg⟩).run P w = .ok (.value ((.bool (decide (a = b))))) w := by simp [execOp, hx, hy, eqGuard_at_int, binOp_eql]; rfl
theorem r_neq (hx : ev ρ x = .int k a) (hy : ev ρ y = .int k b) : (execOp (ev ρ) ⟨dd, .binOp .neq t x y u, ty, pos, af, gg⟩).run P w = .ok (.value ((.bool (decide (a ≠ b))))) w := by
    have : (a != b) = decide (a ≠ b) := by rw [Bool.eq_iff_iff]; simp
    simp [execOp, hx, hy, eqGuard_at_int, binOp_neq, this]
theorem r_lss (hx : ev ρ x = .int k a) (hy : ev ρ y = .int k b) : (execOp (ev ρ) ⟨dd, .binOp .lss t x y u, ty, pos, af, gg⟩).run P w = .ok (.value ((.bool (decide (a < b))))) w := by simp [execOp, hx, hy, eqGuard_at_int, binOp_lss]
theorem r_leq (hx : ev ρ x = .int k a) (hy : ev ρ y = .int k b) : (execOp (ev ρ) ⟨dd, .binOp .leq t x y u, ty, pos, af, gg⟩).run P w = .ok (.value ((.bool (decide (a ≤ b))))) w := by simp [execOp, hx, hy, eqGuard_at_int, binOp_leq]
theorem r_gtr (hx : ev ρ x = .int k a) (hy : ev ρ y = .int k b) : (execOp (ev ρ) ⟨dd, .binOp .gtr t x y u, ty, pos, af, gg⟩).run P w = .ok (.value ((.bool (decide (b < a))))) w := by simp [execOp, hx, hy, eqGuard_at_int, binOp_gtr]
theorem r_geq (hx : ev ρ x = .int k a) (hy : ev ρ y = .int k b) : (execOp (ev ρ) ⟨dd, .binOp .geq t x y u, ty, pos, af, gg⟩).run P w = .ok (.value ((.bool (decide (b ≤ a))))) w := by simp [execOp, hx, hy, eqGuard_at_int, binOp_geq]
end
section
variable {w0 : World} {S : List Nat} {L L' : List Ent} {A : Option Addr} {b o f1 f2 len cap sz : Nat} {cs : List Value} {bs : List UInt8} {T t e u s : TypeId} {x y lo hi : Operand} {kl kh : IntKind} {l h : Int}
theorem r_mv {x : Operand} {v : Value} (hx : ev ρ x = v) : (execOp (ev ρ) ⟨dd, .move x, ty, pos, af, gg⟩).run P w = .ok (.value (v)) w := by simp [execOp, hx]
theorem r_asg {x : Operand} {v : Value} (hx : ev ρ x = v) : (execOp (ev ρ) ⟨dd, .assign x, ty, pos, af, gg⟩).run P w = .ok (.value (v)) w := by simp [execOp, hx]
theorem r_pkT {c x y : Operand} {v : Value} (hc : ev ρ c = .bool true) (hx : ev ρ x = v) : (execOp (ev ρ) ⟨dd, .pick c x y, ty, pos, af, gg⟩).run P w = .ok (.value (v)) w := by simp [execOp, hc, hx, asBool]
theorem r_pkF {c x y : Operand} {v : Value} (hc : ev ρ c = .bool false) (hy : ev ρ y = v) : (execOp (ev ρ) ⟨dd, .pick c x y, ty, pos, af, gg⟩).run P w = .ok (.value (v)) w := by simp [execOp, hc, hy, asBool]
theorem r_unot {t : TypeId} {x : Operand} {b : Bool} (hx : ev ρ x = .bool b) : (execOp (ev ρ) ⟨dd, .unOp .not t x, ty, pos, af, gg⟩).run P w = .ok (.value ((.bool (!b)))) w := by simp [execOp, hx, Op.unary]
theorem r_eqlB {t u : TypeId} {x y : Operand} {a b : Bool} (hx : ev ρ x = .bool a) (hy : ev ρ y = .bool b) (hu : P.underlying t = some .bool) : (execOp (ev ρ) ⟨dd, .binOp .eql t x y u, ty, pos, af, gg⟩).run P w = .ok (.value ((.bool (decide (a = b))))) w := by
    have : (a == b) = decide (a = b) := by cases a <;> cases b <;> rfl
    have hr : (Op.equal t (.bool a) (.bool b)).run P w = .ok (a == b) w := by
      unfold Op.equal
      rw [show Op.maxDepth = 9999 + 1 from rfl, Op.equalIn]
      simp [run_underlying hu]
    simp only [execOp, hx, hy, eqGuard_at_bool, binOp]
    simp [hr, this]
theorem r_cvi {s t : TypeId} {x : Operand} {j k : IntKind} {a c : Int} (hx : ev ρ x = .int j a) (hs : (P.underlying s).isSome = true) (ht : P.underlying t = some (.int k)) (hc : k.wrap a = c) : (execOp (ev ρ) ⟨dd, .convert s t x, ty, pos, af, gg⟩).run P w = .ok (.value ((.int k c))) w := by
    subst hc
    obtain ⟨u, hu⟩ := Option.isSome_iff_exists.1 hs
    simp [execOp, hx, convert, run_underlying hu, run_underlying ht, Conv.intToInt]
theorem r_cvs {s t : TypeId} {x : Operand} {a : ByteArray} (hx : ev ρ x = .string a) (hs : P.underlying s = some .string) (ht : P.underlying t = some .string) : (execOp (ev ρ) ⟨dd, .convert s t x, ty, pos, af, gg⟩).run P w = .ok (.value ((.string a))) w := by simp [execOp, hx, convert, run_underlying hs, run_underlying ht]
theorem r_nc {x : Operand} {a : Addr} (hx : ev ρ x = .pointer (some a)) : (execOp (ev ρ) ⟨dd, .nilCheck x, ty, pos, af, gg⟩).run P w = .ok (.value ((.pointer (some a)))) w := by simp [execOp, hx]
theorem r_nci {x : Operand} {t : TypeId} {v : Value} (hx : ev ρ x = .iface t v) : (execOp (ev ρ) ⟨dd, .nilCheck x, ty, pos, af, gg⟩).run P w = .ok (.value ((.iface t v))) w := by simp [execOp, hx]
theorem r_fa {s f o b k : Nat} {x : Operand} (hx : ev ρ x = .pointer (some ⟨b, o, none⟩)) (hf : fieldOff P s f = some k) : (execOp (ev ρ) ⟨dd, .fieldAddr s x f, ty, pos, af, gg⟩).run P w = .ok (.value ((.pointer (some ⟨b, o + k, none⟩)))) w := by simp [execOp, hx, fieldOff_run hf, Addr.add_lit]
theorem r_ia {t e : TypeId} {x i : Operand} {b o len cap sz : Nat} {j : IntKind} {z : Int} (hx : ev ρ x = .slice (some ⟨b, o, none⟩) len cap) (hi : ev ρ i = .int j z) (hu : P.underlying t = some (.slice e)) (hs : sizeB P e sz = true) (hz : 0 ≤ z ∧ z < len) : (execOp (ev ρ) ⟨dd, .indexAddr t x i, ty, pos, af, gg⟩).run P w = .ok (.value ((.pointer (some ⟨b, o + z.toNat * sz, none⟩)))) w := by simp [execOp, hx, hi, Instr.indexAt, asIntOf, run_underlying hu, hz.1, hz.2, run_sizeOf hs, Addr.add_lit]
theorem r_iA {t e : TypeId} {x i : Operand} {ad : Addr} {len cap : Nat} {j : IntKind} {z : Int} (hx : ev ρ x = .slice (some ad) len cap) (hi : ev ρ i = .int j z) (hu : P.underlying t = some (.slice e)) (hs : sizeB P e 1 = true) (hz : 0 ≤ z ∧ z < len) : (execOp (ev ρ) ⟨dd, .indexAddr t x i, ty, pos, af, gg⟩).run P w = .ok (.value ((.pointer (some (ad.add z.toNat))))) w := by simp [execOp, hx, hi, Instr.indexAt, asIntOf, run_underlying hu, hz.1, hz.2, run_sizeOf hs]
theorem r_iy {t e : TypeId} {x i : Operand} {b o len sz : Nat} {j : IntKind} {z : Int} (hx : ev ρ x = .pointer (some ⟨b, o, none⟩)) (hi : ev ρ i = .int j z) (hu : P.underlying t = some (.array len e)) (hs : sizeB P e sz = true) (hz : 0 ≤ z ∧ z < len) : (execOp (ev ρ) ⟨dd, .indexAddr t x i, ty, pos, af, gg⟩).run P w = .ok (.value ((.pointer (some ⟨b, o + z.toNat * sz, none⟩)))) w := by simp [execOp, hx, hi, Instr.indexAt, asIntOf, run_underlying hu, hz.1, hz.2, run_sizeOf hs, Addr.add_lit, Instr.sureAddr]
theorem r_ld {fr : Nat × Nat} {v : Value} (H : SH w0 S w L) (hx : ev ρ x = .pointer (some ⟨b, o, none⟩)) [Look L b (.cells cs.toArray T fr)] (hs : scalarB P t = true) (hv : cs[o]? = some v) : (execOp (ev ρ) ⟨dd, .load t x, ty, pos, af, gg⟩).run P w = .ok (.value (v)) w := by
    have := H.look (b := b) (o := .cells cs.toArray T fr)
    simp [execOp, hx, Instr.loadAt, Instr.sureAddr, run_loadVar_scalar hs ((cell_at this).trans hv)]
theorem r_lc {ad : Addr} {v : Value} (hx : ev ρ x = .pointer (some ad)) (hc : w.cell? ad = some v) (hs : scalarB P t = true) : (execOp (ev ρ) ⟨dd, .load t x, ty, pos, af, gg⟩).run P w = .ok (.value (v)) w := by simp [execOp, hx, Instr.loadAt, Instr.sureAddr, run_loadVar_scalar hs hc]
theorem r_la {fr : Nat × Nat} {m : Nat} {vs : List Value} (H : SH w0 S w L) (hx : ev ρ x = .pointer (some ⟨b, o, none⟩)) [Look L b (.cells cs.toArray T fr)] (hs : aggB P t m = true) (hm : vs.length = m) (hv : (cs.drop o).take m = vs) : (execOp (ev ρ) ⟨dd, .load t x, ty, pos, af, gg⟩).run P w = .ok (.value ((.agg vs.toArray))) w := by
    have := H.look (b := b) (o := .cells cs.toArray T fr)
    have hl := run_loadVar_agg (P := P) (w := w) (a := ⟨b, o, none⟩) hs hm (fun j v hj => by
      rw [Addr.add_lit, cell_at this]
      rw [← hv, List.getElem?_take, List.getElem?_drop] at hj
      split at hj
      · exact hj
      · cases hj)
    simp [execOp, hx, Instr.loadAt, Instr.sureAddr, hl]
theorem r_xt {x : Operand} {vs : List Value} {i : Nat} {v : Value} (hx : ev ρ x = .tuple vs.toArray) (hv : vs[i]? = some v) : (execOp (ev ρ) ⟨dd, .extract x i, ty, pos, af, gg⟩).run P w = .ok (.value (v)) w := by simp [execOp, hx, Instr.extract, hv]
theorem r_lnS {t e : TypeId} {x : Operand} {A : Option Addr} {l c : Nat} (hx : ev ρ x = .slice A l c) (hu : P.underlying t = some (.slice e)) : (execOp (ev ρ) ⟨dd, .call { callee := .builtin .len, args := #[x], argTypes := #[t] }, ty, pos, af, gg⟩).run P w = .ok (.value ((.int .i64 (l : Int)))) w := by simp [execOp, resolve, invoke, builtin, hx, Builtin.len_, run_underlying hu, goInt]
theorem r_lnT {t : TypeId} {x : Operand} {s : ByteArray} (hx : ev ρ x = .string s) (hu : P.underlying t = some .string) : (execOp (ev ρ) ⟨dd, .call { callee := .builtin .len, args := #[x], argTypes := #[t] }, ty, pos, af, gg⟩).run P w = .ok (.value ((.int .i64 (s.size : Int)))) w := by simp [execOp, resolve, invoke, builtin, hx, Builtin.len_, run_underlying hu, goInt]
theorem r_shlK {t u : TypeId} {x y : Operand} {k yk : IntKind} {a b c p : Int} {s : Nat} (hx : ev ρ x = .int k a) (hy : ev ρ y = .int yk b) (hs : min b.toNat k.bits = s) (hb : 0 ≤ b ∧ (2 : Int) ^ s = p) (hc : k.wrap (a * p) = c) : (execOp (ev ρ) ⟨dd, .binOp .shl t x y u, ty, pos, af, gg⟩).run P w = .ok (.value ((.int k c))) w := r_shl hx hy hb.1 (by rw [hs, hb.2, hc])
theorem r_shrK {t u : TypeId} {x y : Operand} {k yk : IntKind} {a b c p : Int} {s : Nat} (hx : ev ρ x = .int k a) (hy : ev ρ y = .int yk b) (hs : min b.toNat k.bits = s) (hb : 0 ≤ b ∧ (2 : Int) ^ s = p) (hc : a / p = c) : (execOp (ev ρ) ⟨dd, .binOp .shr t x y u, ty, pos, af, gg⟩).run P w = .ok (.value ((.int k c))) w := r_shr hx hy hb.1 (by rw [hs, hb.2, hc])
theorem r_ucompl {t : TypeId} {x : Operand} {k : IntKind} {a c : Int} (hx : ev ρ x = .int k a) (hc : bits .xor k (if k.signed then -1 else k.max) a = c) : (execOp (ev ρ) ⟨dd, .unOp .xor t x, ty, pos, af, gg⟩).run P w = .ok (.value ((.int k c))) w := by subst hc; simp [execOp, hx, Op.unary, intBits_xor]
theorem r_neqB {t u : TypeId} {x y : Operand} {a b : Bool} (hx : ev ρ x = .bool a) (hy : ev ρ y = .bool b) (hu : P.underlying t = some .bool) : (execOp (ev ρ) ⟨dd, .binOp .neq t x y u, ty, pos, af, gg⟩).run P w = .ok (.value ((.bool (decide (a ≠ b))))) w := by
    have : (!(a == b)) = decide (a ≠ b) := by cases a <;> cases b <;> rfl
    have hr : (Op.equal t (.bool a) (.bool b)).run P w = .ok (a == b) w := by
      unfold Op.equal
      rw [show Op.maxDepth = 9999 + 1 from rfl, Op.equalIn]
      simp [run_underlying hu]
    simp only [execOp, hx, hy, eqGuard_at_bool, binOp]
    simp [hr, ← this]
theorem r_eqlT {t u : TypeId} {x y : Operand} {a b : List UInt8} (hx : ev ρ x = .string (str a)) (hy : ev ρ y = .string (str b)) : (execOp (ev ρ) ⟨dd, .binOp .eql t x y u, ty, pos, af, gg⟩).run P w = .ok (.value ((.bool (decide (a = b))))) w := by
    have : (a == b) = decide (a = b) := by rw [Bool.eq_iff_iff]; simp
    simp [execOp, hx, hy, eqGuard_at_string, binOp_string_eql, str, this]
theorem r_neqT {t u : TypeId} {x y : Operand} {a b : List UInt8} (hx : ev ρ x = .string (str a)) (hy : ev ρ y = .string (str b)) : (execOp (ev ρ) ⟨dd, .binOp .neq t x y u, ty, pos, af, gg⟩).run P w = .ok (.value ((.bool (decide (a ≠ b))))) w := by
    have : (!(a == b)) = decide (a ≠ b) := by rw [Bool.eq_iff_iff]; simp
    simp only [execOp, hx, hy, eqGuard_at_string, binOp_string_neq, str, ByteArray.toList_mk, this]
    rfl
theorem r_mi {t : TypeId} {x : Operand} {v : Value} (hx : ev ρ x = v) (hc : P.concrete t = true) : (execOp (ev ρ) ⟨dd, .makeInterface t x, ty, pos, af, gg⟩).run P w = .ok (.value ((.iface t v))) w := by simp [execOp, hx, run_makeInterface w t v hc]
theorem r_ldb {fr : Nat × Nat} (H : SH w0 S w L) (hx : ev ρ x = .pointer (some ⟨b, o, none⟩)) [Look L b (.cells (Bs bs).toArray T fr)] (hs : scalarB P t = true) (ho : o < bs.length) : (execOp (ev ρ) ⟨dd, .load t x, ty, pos, af, gg⟩).run P w = .ok (.value ((.int .u8 ((bs.getD o 0).toNat : Int)))) w := r_ld (cs := Bs bs) H hx hs (Bs_get ho)
theorem r_ixS {t : TypeId} {x i : Operand} {bs : List UInt8} {j : IntKind} {z : Int} (hx : ev ρ x = .string (str bs)) (hi : ev ρ i = .int j z) (hu : P.underlying t = some .string) (hz : 0 ≤ z ∧ z < bs.length) : (execOp (ev ρ) ⟨dd, .index t x i, ty, pos, af, gg⟩).run P w = .ok (.value ((.int .u8 ((bs.getD z.toNat 0).toNat : Int)))) w := by
    have hl : z.toNat < bs.length := by omega
    have hlt : z.toNat < (str bs).size := by simpa using hl
    have hg : (str bs)[z.toNat]? = some (bs.getD z.toNat 0) := by
      rw [ByteArray.getElem?_lt' _ _ hlt]
      simp [str, ByteArray.getElem_eq_getElem_data, List.getD_eq_getElem?_getD, hl]
    simp [execOp, hx, hi, Instr.index, asIntOf, run_underlying hu, hz.1, hg]
theorem r_sllh (hx : ev ρ x = .slice (some ⟨b, o, none⟩) len cap) (h1 : ev ρ lo = .int kl l) (h2 : ev ρ hi = .int kh h) (hu : P.underlying t = some (.slice e)) (hs : sizeB P e sz = true) (hb : 0 ≤ l ∧ l ≤ h ∧ h ≤ cap ∧ l < cap) : (execOp (ev ρ) ⟨dd, .slice t x (some lo) (some hi) none, ty, pos, af, gg⟩).run P w = .ok (.value ((.slice (some ⟨b, o + l.toNat * sz, none⟩) (h.toNat - l.toNat) (cap - l.toNat)))) w := by
    obtain ⟨j, rfl⟩ := Int.eq_ofNat_of_zero_le (show 0 ≤ h by omega)
    have e1 : (j : Int) ≤ (cap : Int) := hb.2.2.1
    have e2 : ¬ cap = l.toNat := by omega
    have e3 : j ≤ cap := by omega
    simp [execOp, hx, h1, h2, Instr.sliceAt, run_underlying hu, Instr.slice, Instr.sliceBounds, Instr.sliceBound, asIntOf, hb.1, hb.2.1, e3, run_sizeOf hs, e2, Addr.add_lit]
theorem r_slh (hx : ev ρ x = .slice A len cap) (h2 : ev ρ hi = .int kh h) (hu : P.underlying t = some (.slice e)) (hs : sizeB P e sz = true) (hb : 0 ≤ h ∧ h ≤ cap) : (execOp (ev ρ) ⟨dd, .slice t x none (some hi) none, ty, pos, af, gg⟩).run P w = .ok (.value ((.slice A h.toNat cap))) w := by
    have e0 : ∀ a : Addr, a.add 0 = a := fun a => by simp [Addr.add]
    cases A <;> simp [execOp, hx, h2, Instr.sliceAt, run_underlying hu, Instr.slice, Instr.sliceBounds, Instr.sliceBound, asIntOf, hb.1, hb.2, run_sizeOf hs, e0]
theorem r_sll (hx : ev ρ x = .slice (some ⟨b, o, none⟩) len cap) (h1 : ev ρ lo = .int kl l) (hu : P.underlying t = some (.slice e)) (hs : sizeB P e sz = true) (hb : 0 ≤ l ∧ l ≤ len ∧ l < cap) : (execOp (ev ρ) ⟨dd, .slice t x (some lo) none none, ty, pos, af, gg⟩).run P w = .ok (.value ((.slice (some ⟨b, o + l.toNat * sz, none⟩) (len - l.toNat) (cap - l.toNat)))) w := by
    have e2 : ¬ cap = l.toNat := by omega
    simp [execOp, hx, h1, Instr.sliceAt, run_underlying hu, Instr.slice, Instr.sliceBounds, Instr.sliceBound, asIntOf, hb.1, hb.2.1, run_sizeOf hs, e2, Addr.add_lit]
theorem r_sl (hx : ev ρ x = .slice A len cap) (hu : P.underlying t = some (.slice e)) (hs : sizeB P e sz = true) (hb : True) : (execOp (ev ρ) ⟨dd, .slice t x none none none, ty, pos, af, gg⟩).run P w = .ok (.value ((.slice A len cap))) w := by
    have e0 : ∀ a : Addr, a.add 0 = a := fun a => by simp [Addr.add]
    cases A <;> simp [execOp, hx, Instr.sliceAt, run_underlying hu, Instr.slice, Instr.sliceBounds, run_sizeOf hs, e0]
theorem r_slTlh (hx : ev ρ x = .string (str bs)) (h1 : ev ρ lo = .int kl l) (h2 : ev ρ hi = .int kh h) (hu : P.underlying t = some .string) (hb : 0 ≤ l ∧ l ≤ h ∧ h ≤ bs.length) : (execOp (ev ρ) ⟨dd, .slice t x (some lo) (some hi) none, ty, pos, af, gg⟩).run P w = .ok (.value ((.string (str ((bs.take h.toNat).drop l.toNat))))) w := by
    obtain ⟨j, rfl⟩ := Int.eq_ofNat_of_zero_le (show 0 ≤ h by omega)
    have e3 : j ≤ bs.length := by omega
    simp [execOp, hx, h1, h2, Instr.sliceAt, run_underlying hu, Instr.slice, Instr.sliceBounds, Instr.sliceBound, asIntOf, hb.1, hb.2.1, e3, str_part]
theorem r_slTh (hx : ev ρ x = .string (str bs)) (h2 : ev ρ hi = .int kh h) (hu : P.underlying t = some .string) (hb : 0 ≤ h ∧ h ≤ bs.length) : (execOp (ev ρ) ⟨dd, .slice t x none (some hi) none, ty, pos, af, gg⟩).run P w = .ok (.value ((.string (str (bs.take h.toNat))))) w := by
    simp [execOp, hx, h2, Instr.sliceAt, run_underlying hu, Instr.slice, Instr.sliceBounds, Instr.sliceBound, asIntOf, hb.1, hb.2, str_part]
theorem r_slTl (hx : ev ρ x = .string (str bs)) (h1 : ev ρ lo = .int kl l) (hu : P.underlying t = some .string) (hb : 0 ≤ l ∧ l ≤ bs.length) : (execOp (ev ρ) ⟨dd, .slice t x (some lo) none none, ty, pos, af, gg⟩).run P w = .ok (.value ((.string (str (bs.drop l.toNat))))) w := by
    simp [execOp, hx, h1, Instr.sliceAt, run_underlying hu, Instr.slice, Instr.sliceBounds, Instr.sliceBound, asIntOf, hb.1, hb.2, str_part]
theorem r_cvBS {A : Option Addr} {m c : Nat} (hx : ev ρ x = .slice A m c) (h : RB w A m bs) (hs : P.underlying s = some (.slice e)) (he : P.underlying e = some (.int .u8)) (ht : P.underlying t = some .string) : (execOp (ev ρ) ⟨dd, .convert s t x, ty, pos, af, gg⟩).run P w = .ok (.value ((.string (str bs)))) w := by simp [execOp, hx, run_bytes_string h hs he ht]
theorem r_fd {t ft : TypeId} {i o : Nat} {x : Operand} {cs : List Value} {v : Value} (hx : ev ρ x = .agg cs.toArray) (hf : fieldTy P t i = some (ft, o)) (hs : scalarB P ft = true) (hv : cs[o]? = some v) : (execOp (ev ρ) ⟨dd, .field t x i, ty, pos, af, gg⟩).run P w = .ok (.value (v)) w := by
    unfold fieldTy at hf
    cases hu : P.underlying t with
    | none => simp [hu] at hf
    | some u =>
      cases u <;> simp [hu] at hf
      obtain ⟨f, hf1, rfl, rfl⟩ := hf
      simp [execOp, hx, Instr.field, run_underlying hu, hf1, part, run_isAgg_scalar hs, asAgg, hv]
theorem r_fdA {t ft : TypeId} {i o m : Nat} {x : Operand} {cs vs : List Value} (hx : ev ρ x = .agg cs.toArray) (hf : fieldTy P t i = some (ft, o)) (hs : aggB P ft m = true) (hv : (cs.drop o).take m = vs) : (execOp (ev ρ) ⟨dd, .field t x i, ty, pos, af, gg⟩).run P w = .ok (.value ((.agg vs.toArray))) w := by
    unfold fieldTy at hf
    cases hu : P.underlying t with
    | none => simp [hu] at hf
    | some u =>
      cases u <;> simp [hu] at hf
      obtain ⟨f, hf1, rfl, rfl⟩ := hf
      subst hv
      simp [execOp, hx, Instr.field, run_underlying hu, hf1, part, run_isAgg_agg hs, run_sizeOf (size_of_agg hs), asAgg]
theorem r_min2 {ts : Array TypeId} {x y : Operand} {k : IntKind} {a b : Int} (hx : ev ρ x = .int k a) (hy : ev ρ y = .int k b) : (execOp (ev ρ) ⟨dd, .call { callee := .builtin .min, args := #[x, y], argTypes := ts }, ty, pos, af, gg⟩).run P w = .ok (.value ((.int k (min a b)))) w := by
    have e : (if b < a then b else a) = min a b := by omega
    simp [execOp, resolve, invoke, builtin, hx, hy, Builtin.min_, Builtin.min2, e]
theorem r_max2 {ts : Array TypeId} {x y : Operand} {k : IntKind} {a b : Int} (hx : ev ρ x = .int k a) (hy : ev ρ y = .int k b) : (execOp (ev ρ) ⟨dd, .call { callee := .builtin .max, args := #[x, y], argTypes := ts }, ty, pos, af, gg⟩).run P w = .ok (.value ((.int k (max a b)))) w := by
    have e : (if a < b then b else a) = max a b := by omega
    simp [execOp, resolve, invoke, builtin, hx, hy, Builtin.max_, Builtin.max2, e]
theorem r_cpS {t e : TypeId} {x : Operand} {A : Option Addr} {l c : Nat} (hx : ev ρ x = .slice A l c) (hu : P.underlying t = some (.slice e)) : (execOp (ev ρ) ⟨dd, .call { callee := .builtin .cap, args := #[x], argTypes := #[t] }, ty, pos, af, gg⟩).run P w = .ok (.value ((.int .i64 (c : Int)))) w := by simp [execOp, resolve, invoke, builtin, hx, Builtin.cap_, run_underlying hu, goInt]
theorem r_eqlI0 {t u : TypeId} {ms : Array (String × TypeId)} {x : Operand} (hx : ev ρ x = .nilIface) (hu : P.underlying t = some (.interface ms)) : (execOp (ev ρ) ⟨dd, .binOp .eql t x (.const .nilIface) u, ty, pos, af, gg⟩).run P w = .ok (.value ((.bool true))) w := by
    have e : ev ρ (.const .nilIface) = .nilIface := rfl
    simp only [execOp, hx, e, eqGuard_nil_constR, binOp]
    simp [run_eqI_nn hu]
theorem r_eqlI1 {t u s : TypeId} {v : Value} {ms : Array (String × TypeId)} {x : Operand} (hx : ev ρ x = .iface s v) (hu : P.underlying t = some (.interface ms)) : (execOp (ev ρ) ⟨dd, .binOp .eql t x (.const .nilIface) u, ty, pos, af, gg⟩).run P w = .ok (.value ((.bool false))) w := by
    have e : ev ρ (.const .nilIface) = .nilIface := rfl
    simp only [execOp, hx, e, eqGuard_at_iface, binOp]
    simp [run_eqI_in hu]
theorem r_neqI0 {t u : TypeId} {ms : Array (String × TypeId)} {x : Operand} (hx : ev ρ x = .nilIface) (hu : P.underlying t = some (.interface ms)) : (execOp (ev ρ) ⟨dd, .binOp .neq t x (.const .nilIface) u, ty, pos, af, gg⟩).run P w = .ok (.value ((.bool false))) w := by
    have e : ev ρ (.const .nilIface) = .nilIface := rfl
    simp only [execOp, hx, e, eqGuard_nil_constR, binOp]
    simp [run_eqI_nn hu]
theorem r_neqI1 {t u s : TypeId} {v : Value} {ms : Array (String × TypeId)} {x : Operand} (hx : ev ρ x = .iface s v) (hu : P.underlying t = some (.interface ms)) : (execOp (ev ρ) ⟨dd, .binOp .neq t x (.const .nilIface) u, ty, pos, af, gg⟩).run P w = .ok (.value ((.bool true))) w := by
    have e : ev ρ (.const .nilIface) = .nilIface := rfl
    simp only [execOp, hx, e, eqGuard_at_iface, binOp]
    simp [run_eqI_in hu]
theorem r_ixV {t e : TypeId} {x i : Operand} {cs : List Value} {j : IntKind} {z : Int} {m : Nat} {v : Value} (hx : ev ρ x = .agg cs.toArray) (hi : ev ρ i = .int j z) (hu : P.underlying t = some (.array m e)) (hs : scalarB P e = true) (hsz : sizeB P e 1 = true) (hz : 0 ≤ z ∧ z < m) (hv : cs[z.toNat]? = some v) : (execOp (ev ρ) ⟨dd, .index t x i, ty, pos, af, gg⟩).run P w = .ok (.value (v)) w := by simp [execOp, hx, hi, Instr.index, asIntOf, run_underlying hu, hz.1, hz.2, run_sizeOf hsz, part, run_isAgg_scalar hs, hv]
theorem r_ixW {t e : TypeId} {x i : Operand} {cs vs : List Value} {j : IntKind} {z : Int} {m sz : Nat} (hx : ev ρ x = .agg cs.toArray) (hi : ev ρ i = .int j z) (hu : P.underlying t = some (.array m e)) (hs : aggB P e sz = true) (hz : 0 ≤ z ∧ z < m) (hv : (cs.drop (z.toNat * sz)).take sz = vs) : (execOp (ev ρ) ⟨dd, .index t x i, ty, pos, af, gg⟩).run P w = .ok (.value ((.agg vs.toArray))) w := by subst hv; simp [execOp, hx, hi, Instr.index, asIntOf, run_underlying hu, hz.1, hz.2, run_sizeOf (size_of_agg hs), part, run_isAgg_agg hs]
theorem r_iB {t e : TypeId} {x i : Operand} {ad : Addr} {len cap sz : Nat} {j : IntKind} {z : Int} (hx : ev ρ x = .slice (some ad) len cap) (hi : ev ρ i = .int j z) (hu : P.underlying t = some (.slice e)) (hs : sizeB P e sz = true) (hz : 0 ≤ z ∧ z < len) : (execOp (ev ρ) ⟨dd, .indexAddr t x i, ty, pos, af, gg⟩).run P w = .ok (.value ((.pointer (some (ad.add (z.toNat * sz)))))) w := by simp [execOp, hx, hi, Instr.indexAt, asIntOf, run_underlying hu, hz.1, hz.2, run_sizeOf hs]
theorem r_iyB {t e : TypeId} {x i : Operand} {ad : Addr} {len sz : Nat} {j : IntKind} {z : Int} (hx : ev ρ x = .pointer (some ad)) (hi : ev ρ i = .int j z) (hu : P.underlying t = some (.array len e)) (hs : sizeB P e sz = true) (hz : 0 ≤ z ∧ z < len) : (execOp (ev ρ) ⟨dd, .indexAddr t x i, ty, pos, af, gg⟩).run P w = .ok (.value ((.pointer (some (ad.add (z.toNat * sz)))))) w := by simp [execOp, hx, hi, Instr.indexAt, asIntOf, run_underlying hu, hz.1, hz.2, run_sizeOf hs, Instr.sureAddr]
theorem r_lw {t : TypeId} {x : Operand} {ad : Addr} {m : Nat} {vs : List Value} (hx : ev ρ x = .pointer (some ad)) (hs : aggB P t m = true) (hm : vs.length = m) (hc : ∀ j v, vs[j]? = some v → w.cell? (ad.add j) = some v) : (execOp (ev ρ) ⟨dd, .load t x, ty, pos, af, gg⟩).run P w = .ok (.value ((.agg vs.toArray))) w := by
    have hl := run_loadVar_agg (P := P) (w := w) (a := ad) hs hm hc
    simp [execOp, hx, Instr.loadAt, Instr.sureAddr, hl]
theorem r_eqlN {t u e : TypeId} {x : Operand} {A : Option Addr} {l c : Nat} (hx : ev ρ x = .slice A l c) (hu : P.underlying t = some (.slice e)) : (execOp (ev ρ) ⟨dd, .binOp .eql t x (.const (.slice none 0 0)) u, ty, pos, af, gg⟩).run P w = .ok (.value ((.bool A.isNone))) w := by
    have e : ev ρ (.const (.slice none 0 0)) = .slice none 0 0 := rfl
    simp only [execOp, hx, e, eqGuard_at_slice, binOp]
    simp [run_eqN hu]
theorem r_neqN {t u e : TypeId} {x : Operand} {A : Option Addr} {l c : Nat} (hx : ev ρ x = .slice A l c) (hu : P.underlying t = some (.slice e)) : (execOp (ev ρ) ⟨dd, .binOp .neq t x (.const (.slice none 0 0)) u, ty, pos, af, gg⟩).run P w = .ok (.value ((.bool A.isSome))) w := by
    have e : ev ρ (.const (.slice none 0 0)) = .slice none 0 0 := rfl
    simp only [execOp, hx, e, eqGuard_at_slice, binOp]
    cases A <;> simp [run_eqN hu]
theorem r_eqlP {t u e : TypeId} {x : Operand} {A : Option Addr} (hx : ev ρ x = .pointer A) (hu : P.underlying t = some (.pointer e)) : (execOp (ev ρ) ⟨dd, .binOp .eql t x (.const (.pointer none)) u, ty, pos, af, gg⟩).run P w = .ok (.value ((.bool A.isNone))) w := by
    have e : ev ρ (.const (.pointer none)) = .pointer none := rfl
    simp only [execOp, hx, e, eqGuard_at_pointer, binOp]
    simp [run_eqP hu]
theorem r_neqP {t u e : TypeId} {x : Operand} {A : Option Addr} (hx : ev ρ x = .pointer A) (hu : P.underlying t = some (.pointer e)) : (execOp (ev ρ) ⟨dd, .binOp .neq t x (.const (.pointer none)) u, ty, pos, af, gg⟩).run P w = .ok (.value ((.bool A.isSome))) w := by
    have e : ev ρ (.const (.pointer none)) = .pointer none := rfl
    simp only [execOp, hx, e, eqGuard_at_pointer, binOp]
    cases A <;> simp [run_eqP hu]
end
end
end Go.Proofs.YtgmkjndmjnbahaaDoor.X
