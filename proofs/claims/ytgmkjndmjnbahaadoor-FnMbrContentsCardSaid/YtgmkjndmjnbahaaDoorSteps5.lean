/- The laws of single operations in tidy forms: what comes out is said by the one who uses them. -/
import Derived.Test.YtgmkjndmjnbahaaDoorRuns
import Derived.Test.YtgmkjndmjnbahaaDoorMapSteps
namespace Go.Proofs.YtgmkjndmjnbahaaDoor.X
set_option linter.unusedVariables false
open Go Go.RowKit
section steps
variable {P : Program} {n : Nat} {ops : Array Oper} {Q : Post} {rest : List Oper} {ρ : Env} {w : World} {ty : TypeId} {pos : String} {af : Array Edge} {d : Nat}
variable {t e : TypeId} {x lo hi : Operand} {b o len cap sz o' m' c' : Nat} {kl kh : IntKind} {l h : Int}
theorem sllhN (o' m' c' : Nat) (hx : ev ρ x = .slice (some ⟨b, o, none⟩) len cap) (h1 : ev ρ lo = .int kl l) (h2 : ev ρ hi = .int kh h) (hu : P.underlying t = some (.slice e)) (hs : sizeB P e sz = true) (hb : 0 ≤ l ∧ l ≤ h ∧ h ≤ cap ∧ l < cap) (ho : o + l.toNat * sz = o' ∧ h.toNat - l.toNat = m' ∧ cap - l.toNat = c') (hn : Nat.blt d n = true)
    (kk : wl P n ops Q rest (upd ρ d (.slice (some ⟨b, o', none⟩) m' c')) w) : wl P n ops Q (⟨some d, .slice t x (some lo) (some hi) none, ty, pos, af, none⟩ :: rest) ρ w :=
  sllh hx h1 h2 hu hs hb hn (by rw [ho.1, ho.2.1, ho.2.2]; exact kk)
theorem sllN (o' m' c' : Nat) (hx : ev ρ x = .slice (some ⟨b, o, none⟩) len cap) (h1 : ev ρ lo = .int kl l) (hu : P.underlying t = some (.slice e)) (hs : sizeB P e sz = true) (hb : 0 ≤ l ∧ l ≤ len ∧ l < cap) (ho : o + l.toNat * sz = o' ∧ len - l.toNat = m' ∧ cap - l.toNat = c') (hn : Nat.blt d n = true)
    (kk : wl P n ops Q rest (upd ρ d (.slice (some ⟨b, o', none⟩) m' c')) w) : wl P n ops Q (⟨some d, .slice t x (some lo) none none, ty, pos, af, none⟩ :: rest) ρ w :=
  sll hx h1 hu hs hb hn (by rw [ho.1, ho.2.1, ho.2.2]; exact kk)
theorem slhN {A : Option Addr} (m' : Nat) (hx : ev ρ x = .slice A len cap) (h2 : ev ρ hi = .int kh h) (hu : P.underlying t = some (.slice e)) (hs : sizeB P e sz = true) (hb : 0 ≤ h ∧ h ≤ cap) (ho : h.toNat = m') (hn : Nat.blt d n = true)
    (kk : wl P n ops Q rest (upd ρ d (.slice A m' cap)) w) : wl P n ops Q (⟨some d, .slice t x none (some hi) none, ty, pos, af, none⟩ :: rest) ρ w :=
  slh hx h2 hu hs hb hn (by rw [ho]; exact kk)
theorem iaN {i : Operand} {j : IntKind} {z : Int} (o' : Nat) (hx : ev ρ x = .slice (some ⟨b, o, none⟩) len cap) (hi : ev ρ i = .int j z) (hu : P.underlying t = some (.slice e)) (hs : sizeB P e sz = true) (hz : 0 ≤ z ∧ z < len) (ho : o + z.toNat * sz = o') (hn : Nat.blt d n = true) (kk : wl P n ops Q rest (upd ρ d (.pointer (some ⟨b, o', none⟩))) w) : wl P n ops Q (⟨some d, .indexAddr t x i, ty, pos, af, none⟩ :: rest) ρ w :=
  ia hx hi hu hs hz hn (by rw [ho]; exact kk)
theorem iyN {i : Operand} {j : IntKind} {z : Int} (o' : Nat) (hx : ev ρ x = .pointer (some ⟨b, o, none⟩)) (hi : ev ρ i = .int j z) (hu : P.underlying t = some (.array len e)) (hs : sizeB P e sz = true) (hz : 0 ≤ z ∧ z < len) (ho : o + z.toNat * sz = o') (hn : Nat.blt d n = true) (kk : wl P n ops Q rest (upd ρ d (.pointer (some ⟨b, o', none⟩))) w) : wl P n ops Q (⟨some d, .indexAddr t x i, ty, pos, af, none⟩ :: rest) ρ w :=
  iy hx hi hu hs hz hn (by rw [ho]; exact kk)
/-- A byte is read whose place and value are said. -/
theorem ldbN {w0 : World} {S : List Nat} {L : List Ent} {T : TypeId} {fr : Nat × Nat} {bs : List UInt8} (u : UInt8) (H : SH w0 S w L) (hx : ev ρ x = .pointer (some ⟨b, o, none⟩)) [Look L b (.cells (Bs bs).toArray T fr)] (hs : scalarB P t = true) (ho : bs[o]? = some u) (hn : Nat.blt d n = true) (kk : wl P n ops Q rest (upd ρ d (.int .u8 (u.toNat : Int))) w) : wl P n ops Q (⟨some d, .load t x, ty, pos, af, none⟩ :: rest) ρ w :=
  ld (cs := Bs bs) (v := .int .u8 (u.toNat : Int)) H hx hs (by simp [Bs, u8v, ho]) hn kk
/-- A value that is known stays; another name for it. -/
theorem mvN {v v' : Value} (hx : ev ρ x = v) (he : v = v') (hn : Nat.blt d n = true) (k : wl P n ops Q rest (upd ρ d v') w) : wl P n ops Q (⟨some d, .move x, ty, pos, af, none⟩ :: rest) ρ w :=
  mv hx hn (by rw [he]; exact k)
theorem asgN {v v' : Value} (hx : ev ρ x = v) (he : v = v') (hn : Nat.blt d n = true) (k : wl P n ops Q rest (upd ρ d v') w) : wl P n ops Q (⟨some d, .assign x, ty, pos, af, none⟩ :: rest) ρ w :=
  asg hx hn (by rw [he]; exact k)
/-- A slice of an array. -/
theorem slY (hx : ev ρ x = .pointer (some ⟨b, o, none⟩)) (hu : P.underlying t = some (.array len e)) (hs : sizeB P e sz = true) (hb : 0 < len) (hn : Nat.blt d n = true)
    (kk : wl P n ops Q rest (upd ρ d (.slice (some ⟨b, o, none⟩) len len)) w) : wl P n ops Q (⟨some d, .slice t x none none none, ty, pos, af, none⟩ :: rest) ρ w :=
  val rfl rfl hn (by
    simp [execOp, hx, Instr.sliceAt, run_underlying hu, Instr.sureAddr, Instr.sliceBounds, run_sizeOf hs, Addr.add]) kk
theorem slYlh (hx : ev ρ x = .pointer (some ⟨b, o, none⟩)) (h1 : ev ρ lo = .int kl l) (h2 : ev ρ hi = .int kh h) (hu : P.underlying t = some (.array len e)) (hs : sizeB P e sz = true) (hb : 0 ≤ l ∧ l ≤ h ∧ h ≤ len ∧ l < len) (hn : Nat.blt d n = true)
    (kk : wl P n ops Q rest (upd ρ d (.slice (some ⟨b, o + l.toNat * sz, none⟩) (h.toNat - l.toNat) (len - l.toNat))) w) : wl P n ops Q (⟨some d, .slice t x (some lo) (some hi) none, ty, pos, af, none⟩ :: rest) ρ w :=
  val rfl rfl hn (by
    obtain ⟨j, rfl⟩ := Int.eq_ofNat_of_zero_le (show 0 ≤ h by omega)
    have e2 : ¬ len = l.toNat := by omega
    have e3 : j ≤ len := by omega
    simp [execOp, hx, h1, h2, Instr.sliceAt, run_underlying hu, Instr.sureAddr, Instr.sliceBounds, Instr.sliceBound, asIntOf, hb.1, hb.2.1, e3, run_sizeOf hs, e2, Addr.add_lit]) kk
/-- A field's address, whatever the struct's. -/
theorem r_faG {s f k : Nat} {x : Operand} {ad : Addr} {dd : Option Nat} {gg : Option (Nat × Bool)} (hx : ev ρ x = .pointer (some ad)) (hf : fieldOff P s f = some k) : (execOp (ev ρ) ⟨dd, .fieldAddr s x f, ty, pos, af, gg⟩).run P w = .ok (.value (.pointer (some (ad.add k)))) w := by simp [execOp, hx, fieldOff_run hf]
theorem faG {s f k : Nat} {x : Operand} {ad : Addr} (hx : ev ρ x = .pointer (some ad)) (hf : fieldOff P s f = some k) (hn : Nat.blt d n = true) (kk : wl P n ops Q rest (upd ρ d (.pointer (some (ad.add k)))) w) : wl P n ops Q (⟨some d, .fieldAddr s x f, ty, pos, af, none⟩ :: rest) ρ w :=
  val rfl rfl hn (r_faG hx hf) kk
/-- An element's address, whatever the slice's; said by the one who uses it. -/
theorem iBN {i : Operand} {ad : Addr} {j : IntKind} {z : Int} (ad' : Addr) (hx : ev ρ x = .slice (some ad) len cap) (hi : ev ρ i = .int j z) (hu : P.underlying t = some (.slice e)) (hs : sizeB P e sz = true) (hz : 0 ≤ z ∧ z < len) (ho : ad.add (z.toNat * sz) = ad') (hn : Nat.blt d n = true) (kk : wl P n ops Q rest (upd ρ d (.pointer (some ad'))) w) : wl P n ops Q (⟨some d, .indexAddr t x i, ty, pos, af, none⟩ :: rest) ρ w :=
  iB hx hi hu hs hz hn (by rw [ho]; exact kk)
/-- Is an interface's value there? -/
def isIf : Value → Bool
  | .iface _ _ => true
  | _ => false
def Ifc (e : Value) : Prop := e = .nilIface ∨ ∃ t v, e = .iface t v
theorem neqIG {t u : TypeId} {ms : Array (String × TypeId)} {x : Operand} {e : Value} (hx : ev ρ x = e) (hu : P.underlying t = some (.interface ms)) (he : Ifc e) (hn : Nat.blt d n = true) (kk : wl P n ops Q rest (upd ρ d (.bool (isIf e))) w) : wl P n ops Q (⟨some d, .binOp .neq t x (.const .nilIface) u, ty, pos, af, none⟩ :: rest) ρ w := by
  rcases he with rfl | ⟨s, v, rfl⟩
  · exact neqI0 hx hu hn kk
  · exact neqI1 hx hu hn kk
theorem eqlIG {t u : TypeId} {ms : Array (String × TypeId)} {x : Operand} {e : Value} (hx : ev ρ x = e) (hu : P.underlying t = some (.interface ms)) (he : Ifc e) (hn : Nat.blt d n = true) (kk : wl P n ops Q rest (upd ρ d (.bool (!isIf e))) w) : wl P n ops Q (⟨some d, .binOp .eql t x (.const .nilIface) u, ty, pos, af, none⟩ :: rest) ρ w := by
  rcases he with rfl | ⟨s, v, rfl⟩
  · exact eqlI0 hx hu hn kk
  · exact eqlI1 hx hu hn kk
theorem isIf_f {e : Value} (h : isIf e = false) (he : Ifc e) : e = .nilIface := by
  rcases he with rfl | ⟨s, v, rfl⟩
  · rfl
  · cases h
section
variable {dd : Option Nat} {gg : Option (Nat × Bool)}
theorem r_sllhN (o' m' c' : Nat) (hx : ev ρ x = .slice (some ⟨b, o, none⟩) len cap) (h1 : ev ρ lo = .int kl l) (h2 : ev ρ hi = .int kh h) (hu : P.underlying t = some (.slice e)) (hs : sizeB P e sz = true) (hb : 0 ≤ l ∧ l ≤ h ∧ h ≤ cap ∧ l < cap) (ho : o + l.toNat * sz = o' ∧ h.toNat - l.toNat = m' ∧ cap - l.toNat = c') : (execOp (ev ρ) ⟨dd, .slice t x (some lo) (some hi) none, ty, pos, af, gg⟩).run P w = .ok (.value (.slice (some ⟨b, o', none⟩) m' c')) w := by
  rw [← ho.1, ← ho.2.1, ← ho.2.2]; exact r_sllh hx h1 h2 hu hs hb
theorem r_sllN (o' m' c' : Nat) (hx : ev ρ x = .slice (some ⟨b, o, none⟩) len cap) (h1 : ev ρ lo = .int kl l) (hu : P.underlying t = some (.slice e)) (hs : sizeB P e sz = true) (hb : 0 ≤ l ∧ l ≤ len ∧ l < cap) (ho : o + l.toNat * sz = o' ∧ len - l.toNat = m' ∧ cap - l.toNat = c') : (execOp (ev ρ) ⟨dd, .slice t x (some lo) none none, ty, pos, af, gg⟩).run P w = .ok (.value (.slice (some ⟨b, o', none⟩) m' c')) w := by
  rw [← ho.1, ← ho.2.1, ← ho.2.2]; exact r_sll hx h1 hu hs hb
theorem r_slhN {A : Option Addr} (m' : Nat) (hx : ev ρ x = .slice A len cap) (h2 : ev ρ hi = .int kh h) (hu : P.underlying t = some (.slice e)) (hs : sizeB P e sz = true) (hb : 0 ≤ h ∧ h ≤ cap) (ho : h.toNat = m') : (execOp (ev ρ) ⟨dd, .slice t x none (some hi) none, ty, pos, af, gg⟩).run P w = .ok (.value (.slice A m' cap)) w := by
  rw [← ho]; exact r_slh hx h2 hu hs hb
theorem r_iaN {i : Operand} {j : IntKind} {z : Int} (o' : Nat) (hx : ev ρ x = .slice (some ⟨b, o, none⟩) len cap) (hi : ev ρ i = .int j z) (hu : P.underlying t = some (.slice e)) (hs : sizeB P e sz = true) (hz : 0 ≤ z ∧ z < len) (ho : o + z.toNat * sz = o') : (execOp (ev ρ) ⟨dd, .indexAddr t x i, ty, pos, af, gg⟩).run P w = .ok (.value (.pointer (some ⟨b, o', none⟩))) w := by
  rw [← ho]; exact r_ia hx hi hu hs hz
theorem r_iyN {i : Operand} {j : IntKind} {z : Int} (o' : Nat) (hx : ev ρ x = .pointer (some ⟨b, o, none⟩)) (hi : ev ρ i = .int j z) (hu : P.underlying t = some (.array len e)) (hs : sizeB P e sz = true) (hz : 0 ≤ z ∧ z < len) (ho : o + z.toNat * sz = o') : (execOp (ev ρ) ⟨dd, .indexAddr t x i, ty, pos, af, gg⟩).run P w = .ok (.value (.pointer (some ⟨b, o', none⟩))) w := by
  rw [← ho]; exact r_iy hx hi hu hs hz
theorem r_mvN {v v' : Value} (hx : ev ρ x = v) (he : v = v') : (execOp (ev ρ) ⟨dd, .move x, ty, pos, af, gg⟩).run P w = .ok (.value v') w := by
  rw [← he]; exact r_mv hx
theorem r_asgN {v v' : Value} (hx : ev ρ x = v) (he : v = v') : (execOp (ev ρ) ⟨dd, .assign x, ty, pos, af, gg⟩).run P w = .ok (.value v') w := by
  rw [← he]; exact r_asg hx
theorem r_slY (hx : ev ρ x = .pointer (some ⟨b, o, none⟩)) (hu : P.underlying t = some (.array len e)) (hs : sizeB P e sz = true) (hb : 0 < len) : (execOp (ev ρ) ⟨dd, .slice t x none none none, ty, pos, af, gg⟩).run P w = .ok (.value (.slice (some ⟨b, o, none⟩) len len)) w := by
  simp [execOp, hx, Instr.sliceAt, run_underlying hu, Instr.sureAddr, Instr.sliceBounds, run_sizeOf hs, Addr.add]
theorem r_slYlh (hx : ev ρ x = .pointer (some ⟨b, o, none⟩)) (h1 : ev ρ lo = .int kl l) (h2 : ev ρ hi = .int kh h) (hu : P.underlying t = some (.array len e)) (hs : sizeB P e sz = true) (hb : 0 ≤ l ∧ l ≤ h ∧ h ≤ len ∧ l < len) : (execOp (ev ρ) ⟨dd, .slice t x (some lo) (some hi) none, ty, pos, af, gg⟩).run P w = .ok (.value (.slice (some ⟨b, o + l.toNat * sz, none⟩) (h.toNat - l.toNat) (len - l.toNat))) w := by
  obtain ⟨j, rfl⟩ := Int.eq_ofNat_of_zero_le (show 0 ≤ h by omega)
  have e2 : ¬ len = l.toNat := by omega
  have e3 : j ≤ len := by omega
  simp [execOp, hx, h1, h2, Instr.sliceAt, run_underlying hu, Instr.sureAddr, Instr.sliceBounds, Instr.sliceBound, asIntOf, hb.1, hb.2.1, e3, run_sizeOf hs, e2, Addr.add_lit]
end
end steps
end Go.Proofs.YtgmkjndmjnbahaaDoor.X
