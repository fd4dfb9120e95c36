/- The laws of single operations: bytes, strings, slices of slices, what is built. -/
import Derived.Test.YtgmkjndmjnbahaaDoorSteps
namespace Go.Proofs.YtgmkjndmjnbahaaDoor.X
set_option linter.unusedVariables false
open Go Go.RowKit

/-! ### Bytes in memory, and strings -/
def u8v (b : UInt8) : Value := .int .u8 (b.toNat : Int)
def Bs (bs : List UInt8) : List Value := bs.map u8v
@[simp] theorem Bs_length (bs : List UInt8) : (Bs bs).length = bs.length := by simp [Bs]
theorem Bs_get {bs : List UInt8} {i : Nat} (h : i < bs.length) : (Bs bs)[i]? = some (.int .u8 ((bs.getD i 0).toNat : Int)) := by
  simp [Bs, u8v, h]
theorem Bs_set (bs : List UInt8) (i : Nat) (b : UInt8) : (Bs bs).set i (u8v b) = Bs (bs.set i b) := by simp [Bs, List.map_set]
theorem Bs_replicate (n : Nat) : List.replicate n (Value.int .u8 0) = Bs (List.replicate n 0) := by simp [Bs, u8v]
def b8 (a : Int) : UInt8 := UInt8.ofNat a.toNat
theorem u8v_b8 {a : Int} (h : 0 ≤ a ∧ a ≤ 255) : u8v (b8 a) = .int .u8 a := by
  unfold u8v b8
  congr 1
  simp
  omega
theorem b8_toNat (u : UInt8) : b8 (u.toNat : Int) = u := by simp [b8]
theorem u8_lt (u : UInt8) : (u.toNat : Int) ≤ 255 := by have := u.toNat_lt; omega
def str (bs : List UInt8) : ByteArray := ⟨bs.toArray⟩
@[simp] theorem size_str (bs : List UInt8) : (str bs).size = bs.length := by simp [str, ByteArray.size]
theorem str_data (s : ByteArray) : str s.data.toList = s := by simp [str]
theorem str_inj {a b : List UInt8} (h : str a = str b) : a = b := by
  have := congrArg (fun s : ByteArray => s.data.toList) h
  simpa [str] using this
/-- A slice of bytes that is read: nil, empty or not. -/
def RB (w : World) (A : Option Addr) (n : Nat) (bs : List UInt8) : Prop :=
  bs.length = n ∧ ∀ i, i < n → ∃ ad, A = some ad ∧ w.cell? (ad.add i) = some (.int .u8 ((bs.getD i 0).toNat : Int))
theorem RB.now {w w' : World} {S : List Nat} {A : Option Addr} {n : Nat} {bs : List UInt8} (h : RB w A n bs) (f : Fr S w w') (hS : ∀ ad, A = some ad → ad.block ∉ S) : RB w' A n bs := by
  refine ⟨h.1, fun i hi => ?_⟩
  obtain ⟨ad, e, hc⟩ := h.2 i hi
  refine ⟨ad, e, f.cell hc ?_⟩
  have : (ad.add i).block = ad.block := by unfold Addr.add; split <;> rfl
  rw [this]; exact hS ad e
theorem RB.keep {w w' : World} {A : Option Addr} {n : Nat} {bs : List UInt8} (h : RB w A n bs) (f : Fr [] w w') : RB w' A n bs := h.now f (by simp)
theorem RB.of {w0 w : World} {S : List Nat} {L : List Ent} {b o n : Nat} {bs : List UInt8} {T : TypeId} {fr : Nat × Nat} (H : SH w0 S w L) [k : Look L b (.cells (Bs bs).toArray T fr)] (h : o + n ≤ bs.length) : RB w (some ⟨b, o, none⟩) n ((bs.drop o).take n) := by
  have hb := H.look (b := b) (o := .cells (Bs bs).toArray T fr)
  refine ⟨by simp; omega, fun i hi => ⟨_, rfl, ?_⟩⟩
  rw [Addr.add_lit, cell_at hb, Bs_get (by omega)]
  simp [List.getD_eq_getElem?_getD, hi]
theorem RB.all {w0 w : World} {S : List Nat} {L : List Ent} {b : Nat} {bs : List UInt8} {T : TypeId} {fr : Nat × Nat} (H : SH w0 S w L) [k : Look L b (.cells (Bs bs).toArray T fr)] : RB w (some ⟨b, 0, none⟩) bs.length bs := by
  have := RB.of (o := 0) (n := bs.length) (b := b) (bs := bs) (T := T) (fr := fr) H (by omega)
  simpa using this
theorem RB.pre {w0 w : World} {S : List Nat} {L : List Ent} {b : Nat} {bs rs : List UInt8} {T : TypeId} {fr : Nat × Nat} (H : SH w0 S w L) [k : Look L b (.cells (Bs (bs ++ rs)).toArray T fr)] : RB w (some ⟨b, 0, none⟩) bs.length bs := by
  have := RB.of (o := 0) (n := bs.length) (b := b) (bs := bs ++ rs) (T := T) (fr := fr) H (by simp)
  simpa using this
theorem RB.preSet {w0 w : World} {S : List Nat} {L : List Ent} {b i : Nat} {u : UInt8} {bs rs : List UInt8} {T : TypeId} {fr : Nat × Nat} (H : SH w0 S w L) [k : Look L b (.cells (Bs ((bs ++ rs).set i u)).toArray T fr)] (h : i < bs.length) : RB w (some ⟨b, 0, none⟩) bs.length (bs.set i u) := by
  have := RB.of (o := 0) (n := bs.length) (b := b) (bs := (bs ++ rs).set i u) (T := T) (fr := fr) H (by simp)
  rw [List.set_append_left _ _ h] at this
  have e : (((bs.set i u ++ rs).drop 0).take bs.length) = bs.set i u := by
    rw [List.drop_zero, List.take_append_of_le_length (by simp)]
    exact List.take_of_length_le (by simp)
  rw [e] at this; exact this
theorem RB.allm {w0 w : World} {S : List Nat} {L : List Ent} {b m : Nat} {bs : List UInt8} {T : TypeId} {fr : Nat × Nat} (H : SH w0 S w L) [k : Look L b (.cells (Bs bs).toArray T fr)] (e : bs.length = m) : RB w (some ⟨b, 0, none⟩) m bs := e ▸ RB.all (fr := fr) (T := T) H
theorem RB.allL {w0 w : World} {S : List Nat} {L : List Ent} {b : Nat} {cs : List Value} {T : TypeId} {fr : Nat × Nat} (bs : List UInt8) (H : SH w0 S w L) [k : Look L b (.cells cs.toArray T fr)] (e : cs = Bs bs) : RB w (some ⟨b, 0, none⟩) bs.length bs := by
  subst e
  exact RB.all (fr := fr) (T := T) H
theorem RB.nil (w : World) (A : Option Addr) : RB w A 0 [] := ⟨rfl, fun i hi => by omega⟩
theorem RB.drop {w : World} {b o n k : Nat} {bs : List UInt8} (h : RB w (some ⟨b, o, none⟩) n bs) (hk : k ≤ n) : RB w (some ⟨b, o + k, none⟩) (n - k) (bs.drop k) := by
  refine ⟨by simp [h.1], fun i hi => ⟨_, rfl, ?_⟩⟩
  obtain ⟨ad, e, hc⟩ := h.2 (k + i) (by omega)
  obtain rfl := Option.some.inj e
  rw [Addr.add_lit] at hc ⊢
  rw [Nat.add_assoc, hc]
  simp [List.getD_eq_getElem?_getD]
theorem RB.take {w : World} {A : Option Addr} {n k : Nat} {bs : List UInt8} (h : RB w A n bs) (hk : k ≤ n) : RB w A k (bs.take k) := by
  refine ⟨by simp [h.1]; omega, fun i hi => ?_⟩
  obtain ⟨ad, e, hc⟩ := h.2 i (by omega)
  exact ⟨ad, e, by rw [hc]; simp [List.getD_eq_getElem?_getD, hi]⟩

section steps
variable {P : Program} {n : Nat} {ops : Array Oper} {Q : Post} {rest : List Oper} {ρ : Env} {w : World} {ty : TypeId} {pos : String} {af : Array Edge} {d : Nat}
theorem fin_n {r : Env → Value} {φ : Value → World → Prop} (h : φ (r ρ) w) : fin r φ .normal ρ w := h
theorem fin_r {r : Env → Value} {φ : Value → World → Prop} (h : φ (r ρ) w) : fin r φ .ret ρ w := h

theorem shlK {t u : TypeId} {x y : Operand} {k yk : IntKind} {a b c p : Int} {s : Nat} (hx : ev ρ x = .int k a) (hy : ev ρ y = .int yk b) (hs : min b.toNat k.bits = s) (hb : 0 ≤ b ∧ (2 : Int) ^ s = p) (hc : k.wrap (a * p) = c) (hn : Nat.blt d n = true) (kk : wl P n ops Q rest (upd ρ d (.int k c)) w) : wl P n ops Q (⟨some d, .binOp .shl t x y u, ty, pos, af, none⟩ :: rest) ρ w :=
  shl hx hy hb.1 (by rw [hs, hb.2, hc]) hn kk
theorem shrK {t u : TypeId} {x y : Operand} {k yk : IntKind} {a b c p : Int} {s : Nat} (hx : ev ρ x = .int k a) (hy : ev ρ y = .int yk b) (hs : min b.toNat k.bits = s) (hb : 0 ≤ b ∧ (2 : Int) ^ s = p) (hc : a / p = c) (hn : Nat.blt d n = true) (kk : wl P n ops Q rest (upd ρ d (.int k c)) w) : wl P n ops Q (⟨some d, .binOp .shr t x y u, ty, pos, af, none⟩ :: rest) ρ w :=
  shr hx hy hb.1 (by rw [hs, hb.2, hc]) hn kk
theorem ucompl {t : TypeId} {x : Operand} {k : IntKind} {a c : Int} (hx : ev ρ x = .int k a) (hc : bits .xor k (if k.signed then -1 else k.max) a = c) (hn : Nat.blt d n = true) (kk : wl P n ops Q rest (upd ρ d (.int k c)) w) : wl P n ops Q (⟨some d, .unOp .xor t x, ty, pos, af, none⟩ :: rest) ρ w :=
  val rfl rfl hn (by subst hc; simp [execOp, hx, Op.unary, intBits_xor]) kk
theorem neqB {t u : TypeId} {x y : Operand} {a b : Bool} (hx : ev ρ x = .bool a) (hy : ev ρ y = .bool b) (hu : P.underlying t = some .bool) (hn : Nat.blt d n = true) (kk : wl P n ops Q rest (upd ρ d (.bool (decide (a ≠ b)))) w) : wl P n ops Q (⟨some d, .binOp .neq t x y u, ty, pos, af, none⟩ :: rest) ρ w :=
  val rfl rfl hn (by
    have : (!(a == b)) = decide (a ≠ b) := by cases a <;> cases b <;> rfl
    have hr : (Op.equal t (.bool a) (.bool b)).run P w = .ok (a == b) w := by
      unfold Op.equal
      rw [show Op.maxDepth = 9999 + 1 from rfl, Op.equalIn]
      simp [run_underlying hu]
    simp only [execOp, hx, hy, eqGuard_at_bool, binOp]
    simp [hr, ← this]) kk
theorem eqlT {t u : TypeId} {x y : Operand} {a b : List UInt8} (hx : ev ρ x = .string (str a)) (hy : ev ρ y = .string (str b)) (hn : Nat.blt d n = true) (kk : wl P n ops Q rest (upd ρ d (.bool (decide (a = b)))) w) : wl P n ops Q (⟨some d, .binOp .eql t x y u, ty, pos, af, none⟩ :: rest) ρ w :=
  val rfl rfl hn (by
    have : (a == b) = decide (a = b) := by rw [Bool.eq_iff_iff]; simp
    simp [execOp, hx, hy, eqGuard_at_string, binOp_string_eql, str, this]) kk
theorem neqT {t u : TypeId} {x y : Operand} {a b : List UInt8} (hx : ev ρ x = .string (str a)) (hy : ev ρ y = .string (str b)) (hn : Nat.blt d n = true) (kk : wl P n ops Q rest (upd ρ d (.bool (decide (a ≠ b)))) w) : wl P n ops Q (⟨some d, .binOp .neq t x y u, ty, pos, af, none⟩ :: rest) ρ w :=
  val rfl rfl hn (by
    have : (!(a == b)) = decide (a ≠ b) := by rw [Bool.eq_iff_iff]; simp
    simp only [execOp, hx, hy, eqGuard_at_string, binOp_string_neq, str, ByteArray.toList_mk, this]
    rfl) kk

/-! #### interfaces -/
theorem mi {t : TypeId} {x : Operand} {v : Value} (hx : ev ρ x = v) (hc : P.concrete t = true) (hn : Nat.blt d n = true) (kk : wl P n ops Q rest (upd ρ d (.iface t v)) w) : wl P n ops Q (⟨some d, .makeInterface t x, ty, pos, af, none⟩ :: rest) ρ w :=
  val rfl rfl hn (by simp [execOp, hx, run_makeInterface w t v hc]) kk

/-! #### bytes, strings -/
section mem
variable {w0 : World} {S : List Nat} {L L' : List Ent} {t : TypeId} {x y : Operand} {b o f1 f2 : Nat} {bs : List UInt8} {T : TypeId}
theorem ldb {fr : Nat × Nat} (H : SH w0 S w L) (hx : ev ρ x = .pointer (some ⟨b, o, none⟩)) [Look L b (.cells (Bs bs).toArray T fr)] (hs : scalarB P t = true) (ho : o < bs.length) (hn : Nat.blt d n = true) (kk : ((bs.getD o 0).toNat : Int) ≤ 255 → wl P n ops Q rest (upd ρ d (.int .u8 ((bs.getD o 0).toNat : Int))) w) : wl P n ops Q (⟨some d, .load t x, ty, pos, af, none⟩ :: rest) ρ w :=
  ld (cs := Bs bs) H hx hs (Bs_get ho) hn (kk (u8_lt _))
theorem stb {a : Int} (H : SH w0 S w L) (hx : ev ρ x = .pointer (some ⟨b, o, none⟩)) (hy : ev ρ y = .int .u8 a) [lk : Look L b (.cells (Bs bs).toArray T (f1, f2))] (hs : scalarB P t = true) (ha : 0 ≤ a ∧ a ≤ 255) (ho : o < bs.length) (hf : f2 ≤ o ∨ o < f1)
    [tn : Turn L b (.cells (Bs (bs.set o (b8 a))).toArray T (f1, f2)) L'] (kk : ∀ w', SH w0 S w' L' → Fr [b] w w' → wl P n ops Q rest ρ w') : wl P n ops Q (⟨none, .store t x y, ty, pos, af, none⟩ :: rest) ρ w := by
  have e : (Bs bs).set o (.int .u8 a) = Bs (bs.set o (b8 a)) := by rw [← u8v_b8 ha, Bs_set]
  exact st (cs := Bs bs) (L' := L') (tn := by rw [e]; exact tn) H hx hy hs rfl (by simpa using ho) hf kk
end mem
theorem ixS {t : TypeId} {x i : Operand} {bs : List UInt8} {j : IntKind} {z : Int} (hx : ev ρ x = .string (str bs)) (hi : ev ρ i = .int j z) (hu : P.underlying t = some .string) (hz : 0 ≤ z ∧ z < bs.length) (hn : Nat.blt d n = true) (kk : ((bs.getD z.toNat 0).toNat : Int) ≤ 255 → wl P n ops Q rest (upd ρ d (.int .u8 ((bs.getD z.toNat 0).toNat : Int))) w) : wl P n ops Q (⟨some d, .index t x i, ty, pos, af, none⟩ :: rest) ρ w :=
  val rfl rfl hn (by
    have hl : z.toNat < bs.length := by omega
    have hlt : z.toNat < (str bs).size := by simpa using hl
    have hg : (str bs)[z.toNat]? = some (bs.getD z.toNat 0) := by
      rw [ByteArray.getElem?_lt' _ _ hlt]
      simp [str, ByteArray.getElem_eq_getElem_data, List.getD_eq_getElem?_getD, hl]
    simp [execOp, hx, hi, Instr.index, asIntOf, run_underlying hu, hz.1, hg]) (kk (u8_lt _))
theorem catT {t u : TypeId} {x y : Operand} {a b : List UInt8} (hx : ev ρ x = .string (str a)) (hy : ev ρ y = .string (str b)) (hl : a.length + b.length ≤ 9223372036854775807) (hn : Nat.blt d n = true) (kk : wl P n ops Q rest (upd ρ d (.string (str (a ++ b)))) w) : wl P n ops Q (⟨some d, .binOp .add t x y u, ty, pos, af, none⟩ :: rest) ρ w := by
  refine val rfl rfl hn (w' := w) (v := .string (str (a ++ b))) ?_ kk
  have h := run_string_add_sum (P := P) (w := w) (str a) (str b) (by simpa using hl)
  have e : str a ++ str b = str (a ++ b) := ByteArray.mk_append_mk a b
  rw [e] at h
  simp [execOp, hx, hy, eqGuard_at_string, binOp_string_add, h]

/-! #### parts of slices and strings -/
section sl
variable {t e : TypeId} {x lo hi : Operand} {A : Option Addr} {b o len cap sz : Nat} {kl kh : IntKind} {l h : Int}
theorem sllh (hx : ev ρ x = .slice (some ⟨b, o, none⟩) len cap) (h1 : ev ρ lo = .int kl l) (h2 : ev ρ hi = .int kh h) (hu : P.underlying t = some (.slice e)) (hs : sizeB P e sz = true) (hb : 0 ≤ l ∧ l ≤ h ∧ h ≤ cap ∧ l < cap) (hn : Nat.blt d n = true)
    (kk : wl P n ops Q rest (upd ρ d (.slice (some ⟨b, o + l.toNat * sz, none⟩) (h.toNat - l.toNat) (cap - l.toNat))) w) : wl P n ops Q (⟨some d, .slice t x (some lo) (some hi) none, ty, pos, af, none⟩ :: rest) ρ w :=
  val rfl rfl hn (by
    obtain ⟨j, rfl⟩ := Int.eq_ofNat_of_zero_le (show 0 ≤ h by omega)
    have e1 : (j : Int) ≤ (cap : Int) := hb.2.2.1
    have e2 : ¬ cap = l.toNat := by omega
    have e3 : j ≤ cap := by omega
    simp [execOp, hx, h1, h2, Instr.sliceAt, run_underlying hu, Instr.slice, Instr.sliceBounds, Instr.sliceBound, asIntOf, hb.1, hb.2.1, e3, run_sizeOf hs, e2, Addr.add_lit]) kk
theorem slh (hx : ev ρ x = .slice A len cap) (h2 : ev ρ hi = .int kh h) (hu : P.underlying t = some (.slice e)) (hs : sizeB P e sz = true) (hb : 0 ≤ h ∧ h ≤ cap) (hn : Nat.blt d n = true)
    (kk : wl P n ops Q rest (upd ρ d (.slice A h.toNat cap)) w) : wl P n ops Q (⟨some d, .slice t x none (some hi) none, ty, pos, af, none⟩ :: rest) ρ w :=
  val rfl rfl hn (by
    have e0 : ∀ a : Addr, a.add 0 = a := fun a => by simp [Addr.add]
    cases A <;> simp [execOp, hx, h2, Instr.sliceAt, run_underlying hu, Instr.slice, Instr.sliceBounds, Instr.sliceBound, asIntOf, hb.1, hb.2, run_sizeOf hs, e0]) kk
theorem sll (hx : ev ρ x = .slice (some ⟨b, o, none⟩) len cap) (h1 : ev ρ lo = .int kl l) (hu : P.underlying t = some (.slice e)) (hs : sizeB P e sz = true) (hb : 0 ≤ l ∧ l ≤ len ∧ l < cap) (hn : Nat.blt d n = true)
    (kk : wl P n ops Q rest (upd ρ d (.slice (some ⟨b, o + l.toNat * sz, none⟩) (len - l.toNat) (cap - l.toNat))) w) : wl P n ops Q (⟨some d, .slice t x (some lo) none none, ty, pos, af, none⟩ :: rest) ρ w :=
  val rfl rfl hn (by
    have e2 : ¬ cap = l.toNat := by omega
    simp [execOp, hx, h1, Instr.sliceAt, run_underlying hu, Instr.slice, Instr.sliceBounds, Instr.sliceBound, asIntOf, hb.1, hb.2.1, run_sizeOf hs, e2, Addr.add_lit]) kk
theorem sl (hx : ev ρ x = .slice A len cap) (hu : P.underlying t = some (.slice e)) (hs : sizeB P e sz = true) (hb : True) (hn : Nat.blt d n = true)
    (kk : wl P n ops Q rest (upd ρ d (.slice A len cap)) w) : wl P n ops Q (⟨some d, .slice t x none none none, ty, pos, af, none⟩ :: rest) ρ w :=
  val rfl rfl hn (by
    have e0 : ∀ a : Addr, a.add 0 = a := fun a => by simp [Addr.add]
    cases A <;> simp [execOp, hx, Instr.sliceAt, run_underlying hu, Instr.slice, Instr.sliceBounds, run_sizeOf hs, e0]) kk
variable {bs : List UInt8}
theorem str_part (bs : List UInt8) (i j : Nat) : (str bs).extract i j = str ((bs.take j).drop i) := by
  have : ((str bs).extract i j).data = (str ((bs.take j).drop i)).data := by
    rw [ByteArray.data_extract]
    apply Array.ext'
    simp [str, List.drop_take]
  exact ByteArray.ext this
theorem slTlh (hx : ev ρ x = .string (str bs)) (h1 : ev ρ lo = .int kl l) (h2 : ev ρ hi = .int kh h) (hu : P.underlying t = some .string) (hb : 0 ≤ l ∧ l ≤ h ∧ h ≤ bs.length) (hn : Nat.blt d n = true)
    (kk : wl P n ops Q rest (upd ρ d (.string (str ((bs.take h.toNat).drop l.toNat)))) w) : wl P n ops Q (⟨some d, .slice t x (some lo) (some hi) none, ty, pos, af, none⟩ :: rest) ρ w :=
  val rfl rfl hn (by
    obtain ⟨j, rfl⟩ := Int.eq_ofNat_of_zero_le (show 0 ≤ h by omega)
    have e3 : j ≤ bs.length := by omega
    simp [execOp, hx, h1, h2, Instr.sliceAt, run_underlying hu, Instr.slice, Instr.sliceBounds, Instr.sliceBound, asIntOf, hb.1, hb.2.1, e3, str_part]) kk
theorem slTh (hx : ev ρ x = .string (str bs)) (h2 : ev ρ hi = .int kh h) (hu : P.underlying t = some .string) (hb : 0 ≤ h ∧ h ≤ bs.length) (hn : Nat.blt d n = true)
    (kk : wl P n ops Q rest (upd ρ d (.string (str (bs.take h.toNat)))) w) : wl P n ops Q (⟨some d, .slice t x none (some hi) none, ty, pos, af, none⟩ :: rest) ρ w :=
  val rfl rfl hn (by
    simp [execOp, hx, h2, Instr.sliceAt, run_underlying hu, Instr.slice, Instr.sliceBounds, Instr.sliceBound, asIntOf, hb.1, hb.2, str_part]) kk
theorem slTl (hx : ev ρ x = .string (str bs)) (h1 : ev ρ lo = .int kl l) (hu : P.underlying t = some .string) (hb : 0 ≤ l ∧ l ≤ bs.length) (hn : Nat.blt d n = true)
    (kk : wl P n ops Q rest (upd ρ d (.string (str (bs.drop l.toNat)))) w) : wl P n ops Q (⟨some d, .slice t x (some lo) none none, ty, pos, af, none⟩ :: rest) ρ w :=
  val rfl rfl hn (by
    simp [execOp, hx, h1, Instr.sliceAt, run_underlying hu, Instr.slice, Instr.sliceBounds, Instr.sliceBound, asIntOf, hb.1, hb.2, str_part]) kk
end sl

/-! #### conversions between strings and bytes -/
section cv
variable {w0 : World} {S : List Nat} {L : List Ent} {s t e : TypeId} {x : Operand} {bs : List UInt8}
theorem cvSB (H : SH w0 S w L) (hx : ev ρ x = .string (str bs)) (hs : P.underlying s = some .string) (ht : P.underlying t = some (.slice e)) (he : P.underlying e = some (.int .u8)) (hn : Nat.blt d n = true)
    (kk : ∀ b c w', w.heap.size ≤ b → bs.length ≤ c → SH w0 S w' (⟨b, .cells (Bs (bs ++ List.replicate (c - bs.length) 0)).toArray e (c, c + 1), true⟩ :: L) → Fr [] w w' → wl P n ops Q rest (upd ρ d (.slice (some ⟨b, 0, none⟩) bs.length c)) w') : wl P n ops Q (⟨some d, .convert s t x, ty, pos, af, none⟩ :: rest) ρ w := by
  have hr := Lib.run_convert_string_bytes (P := P) w s t e (str bs) hs ht he
  have hcells : Lib.bytesCells w e (str bs) = (Bs (bs ++ List.replicate (grownCap w (str bs).size 0 e - (str bs).size) 0)).toArray := by
    apply Array.ext'
    simp [Lib.bytesCells, Bs, str, u8v]
  have hc : bs.length ≤ grownCap w (str bs).size 0 e := by
    have : (str bs).size ≤ grownCap w (str bs).size 0 e := by unfold grownCap; exact Nat.le_add_right _ _
    simpa using this
  have hnew := Lib.bytesWorld_at_new w e (str bs)
  have hsz : (Lib.bytesCells w e (str bs)).size = grownCap w (str bs).size 0 e := by
    rw [hcells, size_str]; simp only [List.size_toArray, Bs_length, List.length_append, List.length_replicate]; rw [size_str] at hc; omega
  rw [hsz, hcells, size_str] at hnew
  have hf : Fr [] w (Lib.bytesWorld w e (str bs)) := ⟨rfl, rfl, rfl, by rw [Lib.bytesWorld_size]; omega, fun b hb _ => Lib.bytesWorld_at_old w e (str bs) b hb⟩
  rw [size_str] at hr hc
  refine val rfl rfl hn (w' := Lib.bytesWorld w e (str bs)) (v := .slice (some ⟨w.heap.size, 0, none⟩) bs.length (grownCap w bs.length 0 e)) ?_ (kk _ _ _ (Nat.le_refl _) hc (H.new hf (Nat.le_refl _) hnew) hf)
  simp [execOp, hx, hr]
theorem run_bytes_string {A : Option Addr} {m c : Nat} (h : RB w A m bs) (hs : P.underlying s = some (.slice e)) (he : P.underlying e = some (.int .u8)) (ht : P.underlying t = some .string) : (convert s t (.slice A m c)).run P w = .ok (.string (str bs)) w := by
  rw [run_convert_bytes_string w s t e _ _ _ hs he ht]
  cases A with
  | none =>
    have : m = 0 := by
      rcases Nat.eq_zero_or_pos m with h0 | h0
      · exact h0
      · obtain ⟨_, e, _⟩ := h.2 0 h0; cases e
    have hb : bs = [] := List.eq_nil_of_length_eq_zero (by rw [h.1, this])
    subst hb
    simp [Conv.bytesToString, str]; rfl
  | some ad =>
    have hl : (loadCells ad m).run P w = .ok ((bs.map fun b => (b.toNat : Int)).map (Value.int .u8)).toArray w := by
      have := run_loadCells_list (P := P) w ad (Bs bs) (fun j v hj => by
        have hjl : j < bs.length := by simpa using (List.getElem?_eq_some_iff.1 hj).1
        rw [Bs_get hjl] at hj
        obtain ⟨ad', e', hc⟩ := h.2 j (by rw [← h.1]; exact hjl)
        obtain rfl := Option.some.inj e'
        rw [hc]; exact hj)
      rw [Bs_length, h.1] at this
      rw [this]; simp [Bs, u8v, Function.comp_def]
    rw [run_bytesToString w ad m c _ hl]
    congr 2
    rw [foldl_push_bytes]
    apply ByteArray.ext
    apply Array.ext'
    simp [str, Function.comp_def]
theorem cvBS {A : Option Addr} {m c : Nat} (hx : ev ρ x = .slice A m c) (h : RB w A m bs) (hs : P.underlying s = some (.slice e)) (he : P.underlying e = some (.int .u8)) (ht : P.underlying t = some .string) (hn : Nat.blt d n = true)
    (kk : wl P n ops Q rest (upd ρ d (.string (str bs))) w) : wl P n ops Q (⟨some d, .convert s t x, ty, pos, af, none⟩ :: rest) ρ w :=
  val rfl rfl hn (by simp [execOp, hx, run_bytes_string h hs he ht]) kk
end cv

/-! #### what is built -/
/-- Where a part lies: its first cell, how many. -/
def placeOf (P : Program) (t : TypeId) (i : Nat) : Option (Nat × Nat) :=
  match P.underlying t with
  | some (.struct fs) => (match fs[i]? with
    | some f => (P.info? f.type).map fun j => (f.offset, j.size)
    | none => none)
  | some (.array _ e) => (P.info? e).map fun j => (i * j.size, j.size)
  | _ => none
inductive FL (P : Program) (ρ : Env) (t : TypeId) : List Value → List (Nat × Operand) → List Value → Prop where
  | nil {cs : List Value} : FL P ρ t cs [] cs
  | one {cs cs' : List Value} {i o : Nat} {x : Operand} {v : Value} {r : List (Nat × Operand)} (hx : ev ρ x = v) (hp : placeOf P t i = some (o, 1)) (h1 : v.oneCell' = true) (ho : o < cs.length) (h : FL P ρ t (cs.set o v) r cs') : FL P ρ t cs ((i, x) :: r) cs'
  | agg {cs cs' vs : List Value} {i o m : Nat} {x : Operand} {r : List (Nat × Operand)} (hx : ev ρ x = .agg vs.toArray) (hp : placeOf P t i = some (o, m)) (hm : vs.length = m) (ho : o + m ≤ cs.length) (h : FL P ρ t (cs.take o ++ vs ++ cs.drop (o + m)) r cs') : FL P ρ t cs ((i, x) :: r) cs'
theorem cells_one {v : Value} (h : v.oneCell' = true) : v.cells = #[v] := by cases v <;> first | rfl | cases h
theorem foldl_set : ∀ (vs : List Value) (cs : Array Value) (o k : Nat), o + k + vs.length ≤ cs.size →
    (vs.zipIdx k).foldl (fun (cs : Array Value) (x : Value × Nat) => cs.setIfInBounds (o + x.2) x.1) cs = (cs.toList.take (o + k) ++ vs ++ cs.toList.drop (o + k + vs.length)).toArray
  | [], cs, o, k, h => by simp
  | v :: r, cs, o, k, h => by
    simp only [List.zipIdx_cons, List.foldl_cons]
    simp only [List.length_cons] at h
    rw [foldl_set r _ o (k + 1) (by simp; omega)]
    have hlen : o + k < cs.toList.length := by simp; omega
    have := list_seg_step cs.toList (o + k) v r (by simp; omega)
    apply Array.ext'
    simp only [Array.toList_setIfInBounds, List.length_cons]
    rw [show o + (k + 1) = o + k + 1 by omega]
    exact this
theorem fill_FL {P : Program} {ρ : Env} {t : TypeId} {place : Nat → Option (Nat × Nat)} (hp : ∀ i q, placeOf P t i = some q → place i = some q) : ∀ {cs : List Value} {ps : List (Nat × Operand)} {out : List Value}, FL P ρ t cs ps out →
    Instr.fill place cs.toArray (ps.map fun p => (p.1, ev ρ p.2)) = some out.toArray := by
  intro cs ps out h
  induction h with
  | nil => simp [Instr.fill]
  | one hx hq h1 ho h ih =>
    rename_i cs cs' i o x v r
    simp only [List.map_cons, Instr.fill, hp _ _ hq, hx, cells_one h1]
    rw [if_neg (by simp; omega)]
    rw [← ih]
    congr 1
    simp
  | agg hx hq hm ho h ih =>
    rename_i cs cs' vs i o m x r
    simp only [List.map_cons, Instr.fill, hp _ _ hq, hx]
    have e0 : (Value.agg vs.toArray).cells = vs.toArray := rfl
    rw [e0, if_neg (by simp; omega)]
    rw [← ih]
    congr 1
    have := foldl_set vs cs.toArray o 0 (by simp; omega)
    simp only [Nat.add_zero] at this
    subst hm
    rw [← this]
    simp
def buildOK (P : Program) (t : TypeId) : Bool :=
  match P.underlying t with
  | some (.struct fs) => (fs.toList.mapM (fun f => (P.info? f.type).map fun i => (f.offset, i.size))).isSome
  | some (.array _ e) => (P.info? e).isSome
  | _ => false
theorem mapM_get {α β : Type} {f : α → Option β} : ∀ {l : List α} {r : List β}, l.mapM f = some r → ∀ (i : Nat) (a : α), l[i]? = some a → ∃ q, f a = some q ∧ r[i]? = some q
  | [], r, h, i, a, hi => by simp at hi
  | x :: l, r, h, i, a, hi => by
    simp only [List.mapM_cons, Option.bind_eq_bind, Option.pure_def] at h
    cases hx : f x with
    | none => simp [hx] at h
    | some y =>
      cases hl : l.mapM f with
      | none => simp [hx, hl] at h
      | some r' =>
        simp [hx, hl] at h
        subst h
        cases i with
        | zero => simp at hi; subst hi; exact ⟨y, hx, rfl⟩
        | succ i => simpa using mapM_get hl i a (by simpa using hi)
theorem r_bu {t : TypeId} {ps : List (Nat × Operand)} {zs out : List Value} {dd : Option Nat} {gg : Option (Nat × Bool)} (hz : zeroL P t = some zs) (hb : buildOK P t = true) (hf : FL P ρ t zs ps out) : (execOp (ev ρ) ⟨dd, .build t ps.toArray, ty, pos, af, gg⟩).run P w = .ok (.value (.agg out.toArray)) w := by
  obtain ⟨z, hz', hc⟩ := zeroL_some hz
  have hb : P.built t (ps.map fun p => (p.1, ev ρ p.2)) = some out.toArray := by
    unfold buildOK at hb
    cases hi : P.info? t with
    | none => simp [hi] at hz'
    | some it =>
      simp only [hi, Option.bind_some] at hz'
      cases hu : P.underlying t with
      | none => simp [hu] at hb
      | some u =>
        cases u <;> simp only [hu] at hb <;> try (cases hb; done)
        case struct fs =>
          obtain ⟨pl, hpl⟩ := Option.isSome_iff_exists.1 hb
          have := fill_FL (P := P) (ρ := ρ) (t := t) (place := (pl.toArray[·]?)) (fun i q hq => by
            simp only [placeOf, hu] at hq
            cases hfi : fs[i]? with
            | none => simp [hfi] at hq
            | some f =>
              simp only [hfi] at hq
              obtain ⟨q', h1, h2⟩ := mapM_get hpl i f (by simpa using hfi)
              rw [hq] at h1
              obtain rfl := Option.some.inj h1
              simpa using h2) hf
          simp only [Program.built, hi, hu, hz', hpl, hc]
          exact this
        case array m e =>
          cases he : P.info? e with
          | none =>
            cases hf with
            | nil => simp [he] at hb
            | one _ hp => simp [placeOf, hu, he] at hp
            | agg _ hp => simp [placeOf, hu, he] at hp
          | some ie =>
            have := fill_FL (P := P) (ρ := ρ) (t := t) (place := fun i => some (i * ie.size, ie.size)) (fun i q hq => by simpa [placeOf, hu, he] using hq) hf
            simp only [Program.built, hi, hu, hz', he, hc]
            exact this
  have hr := run_build (P := P) w t (ps.map fun p => (p.1, ev ρ p.2)).toArray out.toArray (by simpa using hb)
  simp only [execOp, List.map_toArray]
  simp [hr]
theorem bu {t : TypeId} {ps : List (Nat × Operand)} {zs out : List Value} (hz : zeroL P t = some zs) (hb : buildOK P t = true) (hf : FL P ρ t zs ps out) (hn : Nat.blt d n = true) (kk : wl P n ops Q rest (upd ρ d (.agg out.toArray)) w) : wl P n ops Q (⟨some d, .build t ps.toArray, ty, pos, af, none⟩ :: rest) ρ w :=
  val rfl rfl hn (r_bu hz hb hf) kk
/-! #### parts of structs -/
theorem fd {t ft : TypeId} {i o : Nat} {x : Operand} {cs : List Value} {v : Value} (hx : ev ρ x = .agg cs.toArray) (hf : fieldTy P t i = some (ft, o)) (hs : scalarB P ft = true) (hv : cs[o]? = some v) (hn : Nat.blt d n = true) (kk : wl P n ops Q rest (upd ρ d v) w) : wl P n ops Q (⟨some d, .field t x i, ty, pos, af, none⟩ :: rest) ρ w :=
  val rfl rfl hn (by
    unfold fieldTy at hf
    cases hu : P.underlying t with
    | none => simp [hu] at hf
    | some u =>
      cases u <;> simp [hu] at hf
      obtain ⟨f, hf1, rfl, rfl⟩ := hf
      simp [execOp, hx, Instr.field, run_underlying hu, hf1, part, run_isAgg_scalar hs, asAgg, hv]) kk
theorem fdA {t ft : TypeId} {i o m : Nat} {x : Operand} {cs vs : List Value} (hx : ev ρ x = .agg cs.toArray) (hf : fieldTy P t i = some (ft, o)) (hs : aggB P ft m = true) (hv : (cs.drop o).take m = vs) (hn : Nat.blt d n = true) (kk : wl P n ops Q rest (upd ρ d (.agg vs.toArray)) w) : wl P n ops Q (⟨some d, .field t x i, ty, pos, af, none⟩ :: rest) ρ w :=
  val rfl rfl hn (by
    unfold fieldTy at hf
    cases hu : P.underlying t with
    | none => simp [hu] at hf
    | some u =>
      cases u <;> simp [hu] at hf
      obtain ⟨f, hf1, rfl, rfl⟩ := hf
      subst hv
      simp [execOp, hx, Instr.field, run_underlying hu, hf1, part, run_isAgg_agg hs, run_sizeOf (size_of_agg hs), asAgg]) kk
end steps
end Go.Proofs.YtgmkjndmjnbahaaDoor.X
