/- Laws and walks on the road to the statement: Results, MapSteps, Steps5, EqAgg, EqRows, LePure, P1, P2, P3, Steps6. -/
import Derived.Test.YthcaejaaalkglaaGreatDoorM2
import Derived.WideMake
import Derived.Laws.StructEq
import Derived.Test.YthcaejaaalkglaaGreatDoorProg
/- Results that lie in cells. -/
namespace Go.Proofs.YthcaejaaalkglaaGreatDoor.X
open Go Go.RowKit
set_option linter.unusedVariables false
/-- What one result variable gives. -/
def resOne (P : Program) (ρ : Env) (w : World) : ResultVar → Value → Prop
  | .tmp t, v => v = ρ t
  | .cell t ty, v => ∃ (ad : Addr) (cs : List Value), ρ t = .pointer (some ad) ∧ aggB P ty cs.length = true ∧ (∀ j u, cs[j]? = some u → w.cell? (ad.add j) = some u) ∧ v = .agg cs.toArray
def resAll (P : Program) (ρ : Env) (w : World) : List ResultVar → List Value → Prop
  | [], [] => True
  | r :: rs, v :: vs => resOne P ρ w r v ∧ resAll P ρ w rs vs
  | _, _ => False
def resVal : List Value → Value
  | [v] => v
  | vs => .tuple vs.toArray
def finR (P : Program) (rs : List ResultVar) (φ : Value → World → Prop) : Post
  | .normal, ρ, w => ∃ vs, resAll P ρ w rs vs ∧ φ (resVal vs) w
  | .ret, ρ, w => ∃ vs, resAll P ρ w rs vs ∧ φ (resVal vs) w
  | _, _, _ => False
def resSem (a : Act) : ResultVar → Sem Value
  | .tmp t => pure (a.tmps.getD t undef)
  | .cell d t => do loadVar t (← asAddr (a.tmps.getD d undef))
theorem resOne_run {P : Program} {a : Act} {w : World} {r : ResultVar} {v : Value} (h : resOne P (envOf a) w r v) : (resSem a r).run P w = .ok v w := by
  cases r with
  | tmp t => simp only [resOne, envOf] at h; subst h; simp [resSem]
  | cell d t =>
    obtain ⟨ad, cs, h1, h2, h3, rfl⟩ := h
    simp only [envOf] at h1
    have hl := run_loadVar_agg (P := P) (w := w) (a := ad) h2 rfl h3
    simp only [resSem, h1]
    simp [asAddr, hl]
theorem resAll_len {P : Program} {ρ : Env} {w : World} : ∀ {rs : List ResultVar} {vs : List Value}, resAll P ρ w rs vs → rs.length = vs.length
  | [], [], _ => rfl
  | [], _ :: _, h => h.elim
  | _ :: _, [], h => h.elim
  | _ :: rs, _ :: vs, h => by simp [resAll_len h.2]
theorem resAll_mapM {P : Program} {a : Act} {w : World} : ∀ {rs : List ResultVar} {vs : List Value}, resAll P (envOf a) w rs vs → (rs.mapM (resSem a)).run P w = .ok vs w
  | [], [], _ => by simp
  | [], _ :: _, h => h.elim
  | _ :: _, [], h => h.elim
  | r :: rs, v :: vs, h => by
    have h1 := resOne_run h.1
    have h2 := resAll_mapM h.2
    simp only [List.mapM_cons, Sem.run_bind, h1, Result.andThen_ok, h2, Sem.run_pure]
theorem results_run {P : Program} {fn : Func} {a : Act} {w : World} {rs : List ResultVar} {vs : List Value} (hf : fn.results = rs.toArray) (h : resAll P (envOf a) w rs vs) : (results fn a.tmps).run P w = .ok (resVal vs) w := by
  have hm := resAll_mapM h
  have e : results fn a.tmps = (do
      let vs ← fn.results.mapM (resSem a)
      pure (if h : vs.size = 1 then vs[0] else .tuple vs)) := by
    unfold results
    congr 2
  rw [e, hf, List.mapM_toArray]
  simp only [Sem.run_bind, Sem.run_map, hm, Result.andThen_ok]
  cases vs with
  | nil => simp [resVal]
  | cons v vs =>
    cases vs with
    | nil => simp [resVal]
    | cons u vs => simp [resVal]
theorem enterR {P : Program} {f : FuncId} {fn : Func} {c : Code} {l : List Value} {w : World} {φ : Value → World → Prop} {n : Nat} (rs : List ResultVar)
    (hf : P.funcs[f]? = some fn) (hb : fn.body = some c) (hn : fn.ntmps = n) (hl : Nat.ble l.length n = true) (hr : fn.results = rs.toArray)
    (h : cw P n c (finR P rs φ) (argEnv l) w) : Calls P f l.toArray w (Ret φ) := by
  have hl' : l.length ≤ n := Nat.le_of_ble_eq_true hl
  refine calls_of_wp hf hb ?_
  subst hn
  have he : envOf { tmps := l.toArray ++ Array.replicate (fn.ntmps - l.toArray.size) undef, defers := [] } = argEnv l := by
    funext t
    simp only [envOf, argEnv, Array.getD_eq_getD_getElem?, Array.getElem?_append, List.size_toArray, List.getElem?_toArray, List.getD_eq_getElem?_getD]
    by_cases ht : t < l.length
    · rw [if_pos ht]
    · rw [if_neg ht, List.getElem?_eq_none (by omega)]
      simp [Array.getElem?_replicate]
      split <;> rfl
  refine wp_mono (h _ rfl (by simp; omega) he) ?_
  rintro e a w ⟨h1, h2, h3⟩
  cases e with
  | normal => obtain ⟨vs, hv, hφ⟩ := h3; exact ⟨h1, _, results_run hr hv, hφ⟩
  | ret => obtain ⟨vs, hv, hφ⟩ := h3; exact ⟨h1, _, results_run hr hv, hφ⟩
  | _ => exact h3.elim
theorem finR_n {P : Program} {rs : List ResultVar} {φ : Value → World → Prop} {ρ : Env} {w : World} (h : ∃ vs, resAll P ρ w rs vs ∧ φ (resVal vs) w) : finR P rs φ .normal ρ w := h
theorem finR_r {P : Program} {rs : List ResultVar} {φ : Value → World → Prop} {ρ : Env} {w : World} (h : ∃ vs, resAll P ρ w rs vs ∧ φ (resVal vs) w) : finR P rs φ .ret ρ w := h
theorem finC {P : Program} {t : Nat} {ty : TypeId} {ρ : Env} {w : World} {b : Nat} {cs : List Value} {T : TypeId} {fr : Nat × Nat} (ht : ρ t = .pointer (some ⟨b, 0, none⟩)) (hc : w.heap[b]? = some (.cells cs.toArray T fr)) (ha : aggB P ty cs.length = true) : resOne P ρ w (.cell t ty) (.agg cs.toArray) :=
  ⟨_, cs, ht, ha, fun j u hu => by rw [Addr.add_lit, cell_at hc]; simpa using hu, rfl⟩
end Go.Proofs.YthcaejaaalkglaaGreatDoor.X
/- The laws of single operations: maps that are written out, methods of interface values. -/
namespace Go.Proofs.YthcaejaaalkglaaGreatDoor.X
set_option linter.unusedVariables false
open Go Go.RowKit
theorem getMap {P : Program} {w : World} {r : Nat} {es : Array MapEntry} {clock : Nat} (hb : w.heap[r]? = some (.map es clock)) : (getObj r).run P w = .ok (.map es clock) w := by simp [getObj, Sem.run, hb]
theorem setMap {P : Program} {w : World} {r : Nat} {es : Array MapEntry} {clock : Nat} (o : Obj) (hb : w.heap[r]? = some (.map es clock)) : (setObj r o).run P w = .ok () { w with heap := w.heap.setIfInBounds r o } := by simp [setObj, Sem.run, hb]
section steps
variable {P : Program} {n : Nat} {ops : Array Oper} {Q : Post} {rest : List Oper} {ρ : Env} {w : World} {ty : TypeId} {pos : String} {af : Array Edge} {d : Nat}
variable {w0 : World} {S : List Nat} {L L' : List Ent}
theorem mkm {t : TypeId} (H : SH w0 S w L) (hn : Nat.blt d n = true) (kk : ∀ b w', w.heap.size ≤ b → SH w0 S w' (⟨b, .map ([] : List MapEntry).toArray 0, true⟩ :: L) → Fr [] w w' → wl P n ops Q rest (upd ρ d (.map (some b))) w') : wl P n ops Q (⟨some d, .makeMap t none, ty, pos, af, none⟩ :: rest) ρ w :=
  val rfl rfl hn (w' := w.alloc (.map #[] 0)) (v := .map (some w.heap.size)) (by have h := run_makeMap_plain (P := P) w t; simp [execOp, h]) (kk _ _ (Nat.le_refl _) (H.new (Fr.alloc _ _) (Nat.le_refl _) (heap_alloc_new _ _)) (Fr.alloc _ _))
theorem ins {t kt et : TypeId} {kd kq : IntKind} {m k x : Operand} {b clock : Nat} {es : List MapEntry} {z : Int} {v : Value} (H : SH w0 S w L) (hm : ev ρ m = .map (some b)) (hk : ev ρ k = .int kq z) (hx : ev ρ x = v) (hu : P.underlying t = some (.map kt et)) (hkt : P.underlying kt = some (.int kd)) [Look L b (.map es.toArray clock)] (hf : Instr.findNow (.int kd) (.int kq z) es 0 = some none)
    [tn : Turn L b (.map (es ++ [(MapEntry.mk (.int kq z) v clock)]).toArray (clock + 1)) L'] (kk : ∀ w', SH w0 S w' L' → Fr [b] w w' → wl P n ops Q rest ρ w') : wl P n ops Q (⟨none, .insert t m k x, ty, pos, af, none⟩ :: rest) ρ w := by
  have hL := H.look (b := b) (o := .map es.toArray clock)
  have hg := getMap (P := P) hL
  have hs := setMap (P := P) (.map (es ++ [(MapEntry.mk (.int kq z) v clock)]).toArray (clock + 1)) hL
  have hlt := lt_of_at hL
  have hfr : Fr [b] w { w with heap := w.heap.setIfInBounds b (.map (es ++ [(MapEntry.mk (.int kq z) v clock)]).toArray (clock + 1)) } :=
    ⟨rfl, rfl, rfl, by simp, fun i _ hi => by
      have : b ≠ i := fun e => hi (by simp [e])
      simp [this]⟩
  refine unt rfl rfl (w' := { w with heap := w.heap.setIfInBounds b (.map (es ++ [(MapEntry.mk (.int kq z) v clock)]).toArray (clock + 1)) }) ?_ (kk _ (H.put (b := b) (o' := .map (es ++ [(MapEntry.mk (.int kq z) v clock)]).toArray (clock + 1)) hfr (by simp [hlt])) hfr)
  have hc : (Instr.checkKey false 10000 kt (.int kq z)).run P w = .ok () w := by
    rw [show (10000 : Nat) = 9999 + 1 from rfl, Instr.checkKey]
    simp [run_underlying hkt]
  have e1 : es.toArray.push (MapEntry.mk (.int kq z) v clock) = (es ++ [(MapEntry.mk (.int kq z) v clock)]).toArray := by simp
  simp only [execOp, hm, hk, hx]
  simp [Instr.mapUpdate, run_underlying hu, hg, hc, Instr.findKey, run_underlying hkt, hf, hs]
theorem lkp {t kt et : TypeId} {kd kq : IntKind} {m k : Operand} {b clock : Nat} {es : List MapEntry} {z : Int} {v : Value} (H : SH w0 S w L) (hm : ev ρ m = .map (some b)) (hk : ev ρ k = .int kq z) (hu : P.underlying t = some (.map kt et)) (hkt : P.underlying kt = some (.int kd)) [Look L b (.map es.toArray clock)] (hf : ∃ i, Instr.findNow (.int kd) (.int kq z) es 0 = some (some (i, v)))
    (hn : Nat.blt d n = true) (kk : wl P n ops Q rest (upd ρ d v) w) : wl P n ops Q (⟨some d, .lookup t m k false, ty, pos, af, none⟩ :: rest) ρ w := by
  obtain ⟨i, hf⟩ := hf
  have hL := H.look (b := b) (o := .map es.toArray clock)
  have hg := getMap (P := P) hL
  have hc : (Instr.checkKey es.isEmpty 10000 kt (.int kq z)).run P w = .ok () w := by
    rw [show (10000 : Nat) = 9999 + 1 from rfl, Instr.checkKey]
    simp [run_underlying hkt]
  refine val rfl rfl hn ?_ kk
  simp only [execOp, hm, hk]
  simp [Instr.lookup, run_underlying hu, hg, hc, Instr.findKey, run_underlying hkt, hf]
/-- A method of an interface value. -/
theorem mc {recv : Operand} {name : String} {xs : List Operand} {ts : Array TypeId} {t : TypeId} {f : FuncId} {rv : Value} {φ : Value → World → Prop} (hr : ev ρ recv = .iface t rv) (hm : ∀ v w, (method (P.types.size + Made.depth) t v name).run P w = .ok (f, v) w) (hf : callable P f = true) (hc : Calls P f (rv :: xs.map (ev ρ)).toArray w (Ret φ)) (hn : Nat.blt d n = true)
    (k : ∀ v w', φ v w' → wl P n ops Q rest (upd ρ d v) w') : wl P n ops Q (⟨some d, .call { callee := .invoke recv name, args := xs.toArray, argTypes := ts }, ty, pos, af, none⟩ :: rest) ρ w :=
  enterC rfl rfl hn (by
    have e2 : #[rv] ++ (xs.map (ev ρ)).toArray = (rv :: xs.map (ev ρ)).toArray := by simp
    have e3 : (callMethod (.iface t rv) name (xs.map (ev ρ)).toArray).run P w = .ok (.enter f (rv :: xs.map (ev ρ)).toArray) w := by
      simp [callMethod, hm, run_callFunc hf, run_program]
    have e4 : List.take xs.length (List.map (ev ρ) xs) = List.map (ev ρ) xs := List.take_of_length_le (by simp)
    simp only [execOp, resolve, invoke, hr, Sem.run_bind, Sem.run_pure, Result.andThen_ok, List.map_toArray]
    simp [e3, e4]) hc k
end steps
end Go.Proofs.YthcaejaaalkglaaGreatDoor.X
/- The laws of single operations in tidy forms: what comes out is said by the one who uses them. -/
namespace Go.Proofs.YthcaejaaalkglaaGreatDoor.X
set_option linter.unusedVariables false
open Go Go.RowKit
section steps
variable {P : Program} {n : Nat} {ops : Array Oper} {Q : Post} {rest : List Oper} {ρ : Env} {w : World} {ty : TypeId} {pos : String} {af : Array Edge} {d : Nat}
variable {t e : TypeId} {x lo hi : Operand} {b o len cap sz o' m' c' : Nat} {kl kh : IntKind} {l h : Int}
theorem sllhN (o' m' c' : Nat) (hx : ev ρ x = .slice (some ⟨b, o, none⟩) len cap) (h1 : ev ρ lo = .int kl l) (h2 : ev ρ hi = .int kh h) (hu : P.underlying t = some (.slice e)) (hs : sizeB P e sz = true) (hb : 0 ≤ l ∧ l ≤ h ∧ h ≤ cap ∧ l < cap) (ho : o + l.toNat * sz = o' ∧ h.toNat - l.toNat = m' ∧ cap - l.toNat = c') (hn : Nat.blt d n = true)
    (kk : wl P n ops Q rest (upd ρ d (.slice (some ⟨b, o', none⟩) m' c')) w) : wl P n ops Q (⟨some d, .slice t x (some lo) (some hi) none, ty, pos, af, none⟩ :: rest) ρ w :=
  sllh hx h1 h2 hu hs hb hn (by rw [ho.1, ho.2.1, ho.2.2]; exact kk)
theorem sllN (o' m' c' : Nat) (hx : ev ρ x = .slice (some ⟨b, o, none⟩) len cap) (h1 : ev ρ lo = .int kl l) (hu : P.underlying t = some (.slice e)) (hs : sizeB P e sz = true) (hb : 0 ≤ l ∧ l ≤ len ∧ l < cap) (ho : o + l.toNat * sz = o' ∧ len - l.toNat = m' ∧ cap - l.toNat = c') (hn : Nat.blt d n = true)
    (kk : wl P n ops Q rest (upd ρ d (.slice (some ⟨b, o', none⟩) m' c')) w) : wl P n ops Q (⟨some d, .slice t x (some lo) none none, ty, pos, af, none⟩ :: rest) ρ w :=
  sll hx h1 hu hs hb hn (by rw [ho.1, ho.2.1, ho.2.2]; exact kk)
theorem slhN {A : Option Addr} (m' : Nat) (hx : ev ρ x = .slice A len cap) (h2 : ev ρ hi = .int kh h) (hu : P.underlying t = some (.slice e)) (hs : sizeB P e sz = true) (hb : 0 ≤ h ∧ h ≤ cap) (ho : h.toNat = m') (hn : Nat.blt d n = true)
    (kk : wl P n ops Q rest (upd ρ d (.slice A m' cap)) w) : wl P n ops Q (⟨some d, .slice t x none (some hi) none, ty, pos, af, none⟩ :: rest) ρ w :=
  slh hx h2 hu hs hb hn (by rw [ho]; exact kk)
theorem iaN {i : Operand} {j : IntKind} {z : Int} (o' : Nat) (hx : ev ρ x = .slice (some ⟨b, o, none⟩) len cap) (hi : ev ρ i = .int j z) (hu : P.underlying t = some (.slice e)) (hs : sizeB P e sz = true) (hz : 0 ≤ z ∧ z < len) (ho : o + z.toNat * sz = o') (hn : Nat.blt d n = true) (kk : wl P n ops Q rest (upd ρ d (.pointer (some ⟨b, o', none⟩))) w) : wl P n ops Q (⟨some d, .indexAddr t x i, ty, pos, af, none⟩ :: rest) ρ w :=
  ia hx hi hu hs hz hn (by rw [ho]; exact kk)
theorem iyN {i : Operand} {j : IntKind} {z : Int} (o' : Nat) (hx : ev ρ x = .pointer (some ⟨b, o, none⟩)) (hi : ev ρ i = .int j z) (hu : P.underlying t = some (.array len e)) (hs : sizeB P e sz = true) (hz : 0 ≤ z ∧ z < len) (ho : o + z.toNat * sz = o') (hn : Nat.blt d n = true) (kk : wl P n ops Q rest (upd ρ d (.pointer (some ⟨b, o', none⟩))) w) : wl P n ops Q (⟨some d, .indexAddr t x i, ty, pos, af, none⟩ :: rest) ρ w :=
  iy hx hi hu hs hz hn (by rw [ho]; exact kk)
/-- A byte is read whose place and value are said. -/
theorem ldbN {w0 : World} {S : List Nat} {L : List Ent} {T : TypeId} {fr : Nat × Nat} {bs : List UInt8} (u : UInt8) (H : SH w0 S w L) (hx : ev ρ x = .pointer (some ⟨b, o, none⟩)) [Look L b (.cells (Bs bs).toArray T fr)] (hs : scalarB P t = true) (ho : bs[o]? = some u) (hn : Nat.blt d n = true) (kk : wl P n ops Q rest (upd ρ d (.int .u8 (u.toNat : Int))) w) : wl P n ops Q (⟨some d, .load t x, ty, pos, af, none⟩ :: rest) ρ w :=
  ld (cs := Bs bs) (v := .int .u8 (u.toNat : Int)) H hx hs (by simp [Bs, u8v, ho]) hn kk
/-- A value that is known stays; another name for it. -/
theorem mvN {v v' : Value} (hx : ev ρ x = v) (he : v = v') (hn : Nat.blt d n = true) (k : wl P n ops Q rest (upd ρ d v') w) : wl P n ops Q (⟨some d, .move x, ty, pos, af, none⟩ :: rest) ρ w :=
  mv hx hn (by rw [he]; exact k)
theorem asgN {v v' : Value} (hx : ev ρ x = v) (he : v = v') (hn : Nat.blt d n = true) (k : wl P n ops Q rest (upd ρ d v') w) : wl P n ops Q (⟨some d, .assign x, ty, pos, af, none⟩ :: rest) ρ w :=
  asg hx hn (by rw [he]; exact k)
/-- A slice of an array. -/
theorem slY (hx : ev ρ x = .pointer (some ⟨b, o, none⟩)) (hu : P.underlying t = some (.array len e)) (hs : sizeB P e sz = true) (hb : 0 < len) (hn : Nat.blt d n = true)
    (kk : wl P n ops Q rest (upd ρ d (.slice (some ⟨b, o, none⟩) len len)) w) : wl P n ops Q (⟨some d, .slice t x none none none, ty, pos, af, none⟩ :: rest) ρ w :=
  val rfl rfl hn (by
    simp [execOp, hx, Instr.sliceAt, run_underlying hu, Instr.sureAddr, Instr.sliceBounds, run_sizeOf hs, Addr.add]) kk
theorem slYlh (hx : ev ρ x = .pointer (some ⟨b, o, none⟩)) (h1 : ev ρ lo = .int kl l) (h2 : ev ρ hi = .int kh h) (hu : P.underlying t = some (.array len e)) (hs : sizeB P e sz = true) (hb : 0 ≤ l ∧ l ≤ h ∧ h ≤ len ∧ l < len) (hn : Nat.blt d n = true)
    (kk : wl P n ops Q rest (upd ρ d (.slice (some ⟨b, o + l.toNat * sz, none⟩) (h.toNat - l.toNat) (len - l.toNat))) w) : wl P n ops Q (⟨some d, .slice t x (some lo) (some hi) none, ty, pos, af, none⟩ :: rest) ρ w :=
  val rfl rfl hn (by
    obtain ⟨j, rfl⟩ := Int.eq_ofNat_of_zero_le (show 0 ≤ h by omega)
    have e2 : ¬ len = l.toNat := by omega
    have e3 : j ≤ len := by omega
    simp [execOp, hx, h1, h2, Instr.sliceAt, run_underlying hu, Instr.sureAddr, Instr.sliceBounds, Instr.sliceBound, asIntOf, hb.1, hb.2.1, e3, run_sizeOf hs, e2, Addr.add_lit]) kk
/-- A field's address, whatever the struct's. -/
theorem r_faG {s f k : Nat} {x : Operand} {ad : Addr} {dd : Option Nat} {gg : Option (Nat × Bool)} (hx : ev ρ x = .pointer (some ad)) (hf : fieldOff P s f = some k) : (execOp (ev ρ) ⟨dd, .fieldAddr s x f, ty, pos, af, gg⟩).run P w = .ok (.value (.pointer (some (ad.add k)))) w := by simp [execOp, hx, fieldOff_run hf]
theorem faG {s f k : Nat} {x : Operand} {ad : Addr} (hx : ev ρ x = .pointer (some ad)) (hf : fieldOff P s f = some k) (hn : Nat.blt d n = true) (kk : wl P n ops Q rest (upd ρ d (.pointer (some (ad.add k)))) w) : wl P n ops Q (⟨some d, .fieldAddr s x f, ty, pos, af, none⟩ :: rest) ρ w :=
  val rfl rfl hn (r_faG hx hf) kk
/-- An element's address, whatever the slice's; said by the one who uses it. -/
theorem iBN {i : Operand} {ad : Addr} {j : IntKind} {z : Int} (ad' : Addr) (hx : ev ρ x = .slice (some ad) len cap) (hi : ev ρ i = .int j z) (hu : P.underlying t = some (.slice e)) (hs : sizeB P e sz = true) (hz : 0 ≤ z ∧ z < len) (ho : ad.add (z.toNat * sz) = ad') (hn : Nat.blt d n = true) (kk : wl P n ops Q rest (upd ρ d (.pointer (some ad'))) w) : wl P n ops Q (⟨some d, .indexAddr t x i, ty, pos, af, none⟩ :: rest) ρ w :=
  iB hx hi hu hs hz hn (by rw [ho]; exact kk)
/-- Is an interface's value there? -/
def isIf : Value → Bool
  | .iface _ _ => true
  | _ => false
def Ifc (e : Value) : Prop := e = .nilIface ∨ ∃ t v, e = .iface t v
theorem neqIG {t u : TypeId} {ms : Array (String × TypeId)} {x : Operand} {e : Value} (hx : ev ρ x = e) (hu : P.underlying t = some (.interface ms)) (he : Ifc e) (hn : Nat.blt d n = true) (kk : wl P n ops Q rest (upd ρ d (.bool (isIf e))) w) : wl P n ops Q (⟨some d, .binOp .neq t x (.const .nilIface) u, ty, pos, af, none⟩ :: rest) ρ w := by
  rcases he with rfl | ⟨s, v, rfl⟩
  · exact neqI0 hx hu hn kk
  · exact neqI1 hx hu hn kk
theorem eqlIG {t u : TypeId} {ms : Array (String × TypeId)} {x : Operand} {e : Value} (hx : ev ρ x = e) (hu : P.underlying t = some (.interface ms)) (he : Ifc e) (hn : Nat.blt d n = true) (kk : wl P n ops Q rest (upd ρ d (.bool (!isIf e))) w) : wl P n ops Q (⟨some d, .binOp .eql t x (.const .nilIface) u, ty, pos, af, none⟩ :: rest) ρ w := by
  rcases he with rfl | ⟨s, v, rfl⟩
  · exact eqlI0 hx hu hn kk
  · exact eqlI1 hx hu hn kk
theorem isIf_f {e : Value} (h : isIf e = false) (he : Ifc e) : e = .nilIface := by
  rcases he with rfl | ⟨s, v, rfl⟩
  · rfl
  · cases h
section
variable {dd : Option Nat} {gg : Option (Nat × Bool)}
theorem r_sllhN (o' m' c' : Nat) (hx : ev ρ x = .slice (some ⟨b, o, none⟩) len cap) (h1 : ev ρ lo = .int kl l) (h2 : ev ρ hi = .int kh h) (hu : P.underlying t = some (.slice e)) (hs : sizeB P e sz = true) (hb : 0 ≤ l ∧ l ≤ h ∧ h ≤ cap ∧ l < cap) (ho : o + l.toNat * sz = o' ∧ h.toNat - l.toNat = m' ∧ cap - l.toNat = c') : (execOp (ev ρ) ⟨dd, .slice t x (some lo) (some hi) none, ty, pos, af, gg⟩).run P w = .ok (.value (.slice (some ⟨b, o', none⟩) m' c')) w := by
  rw [← ho.1, ← ho.2.1, ← ho.2.2]; exact r_sllh hx h1 h2 hu hs hb
theorem r_sllN (o' m' c' : Nat) (hx : ev ρ x = .slice (some ⟨b, o, none⟩) len cap) (h1 : ev ρ lo = .int kl l) (hu : P.underlying t = some (.slice e)) (hs : sizeB P e sz = true) (hb : 0 ≤ l ∧ l ≤ len ∧ l < cap) (ho : o + l.toNat * sz = o' ∧ len - l.toNat = m' ∧ cap - l.toNat = c') : (execOp (ev ρ) ⟨dd, .slice t x (some lo) none none, ty, pos, af, gg⟩).run P w = .ok (.value (.slice (some ⟨b, o', none⟩) m' c')) w := by
  rw [← ho.1, ← ho.2.1, ← ho.2.2]; exact r_sll hx h1 hu hs hb
theorem r_slhN {A : Option Addr} (m' : Nat) (hx : ev ρ x = .slice A len cap) (h2 : ev ρ hi = .int kh h) (hu : P.underlying t = some (.slice e)) (hs : sizeB P e sz = true) (hb : 0 ≤ h ∧ h ≤ cap) (ho : h.toNat = m') : (execOp (ev ρ) ⟨dd, .slice t x none (some hi) none, ty, pos, af, gg⟩).run P w = .ok (.value (.slice A m' cap)) w := by
  rw [← ho]; exact r_slh hx h2 hu hs hb
theorem r_iaN {i : Operand} {j : IntKind} {z : Int} (o' : Nat) (hx : ev ρ x = .slice (some ⟨b, o, none⟩) len cap) (hi : ev ρ i = .int j z) (hu : P.underlying t = some (.slice e)) (hs : sizeB P e sz = true) (hz : 0 ≤ z ∧ z < len) (ho : o + z.toNat * sz = o') : (execOp (ev ρ) ⟨dd, .indexAddr t x i, ty, pos, af, gg⟩).run P w = .ok (.value (.pointer (some ⟨b, o', none⟩))) w := by
  rw [← ho]; exact r_ia hx hi hu hs hz
theorem r_iyN {i : Operand} {j : IntKind} {z : Int} (o' : Nat) (hx : ev ρ x = .pointer (some ⟨b, o, none⟩)) (hi : ev ρ i = .int j z) (hu : P.underlying t = some (.array len e)) (hs : sizeB P e sz = true) (hz : 0 ≤ z ∧ z < len) (ho : o + z.toNat * sz = o') : (execOp (ev ρ) ⟨dd, .indexAddr t x i, ty, pos, af, gg⟩).run P w = .ok (.value (.pointer (some ⟨b, o', none⟩))) w := by
  rw [← ho]; exact r_iy hx hi hu hs hz
theorem r_mvN {v v' : Value} (hx : ev ρ x = v) (he : v = v') : (execOp (ev ρ) ⟨dd, .move x, ty, pos, af, gg⟩).run P w = .ok (.value v') w := by
  rw [← he]; exact r_mv hx
theorem r_asgN {v v' : Value} (hx : ev ρ x = v) (he : v = v') : (execOp (ev ρ) ⟨dd, .assign x, ty, pos, af, gg⟩).run P w = .ok (.value v') w := by
  rw [← he]; exact r_asg hx
theorem r_slY (hx : ev ρ x = .pointer (some ⟨b, o, none⟩)) (hu : P.underlying t = some (.array len e)) (hs : sizeB P e sz = true) (hb : 0 < len) : (execOp (ev ρ) ⟨dd, .slice t x none none none, ty, pos, af, gg⟩).run P w = .ok (.value (.slice (some ⟨b, o, none⟩) len len)) w := by
  simp [execOp, hx, Instr.sliceAt, run_underlying hu, Instr.sureAddr, Instr.sliceBounds, run_sizeOf hs, Addr.add]
theorem r_slYlh (hx : ev ρ x = .pointer (some ⟨b, o, none⟩)) (h1 : ev ρ lo = .int kl l) (h2 : ev ρ hi = .int kh h) (hu : P.underlying t = some (.array len e)) (hs : sizeB P e sz = true) (hb : 0 ≤ l ∧ l ≤ h ∧ h ≤ len ∧ l < len) : (execOp (ev ρ) ⟨dd, .slice t x (some lo) (some hi) none, ty, pos, af, gg⟩).run P w = .ok (.value (.slice (some ⟨b, o + l.toNat * sz, none⟩) (h.toNat - l.toNat) (len - l.toNat))) w := by
  obtain ⟨j, rfl⟩ := Int.eq_ofNat_of_zero_le (show 0 ≤ h by omega)
  have e2 : ¬ len = l.toNat := by omega
  have e3 : j ≤ len := by omega
  simp [execOp, hx, h1, h2, Instr.sliceAt, run_underlying hu, Instr.sureAddr, Instr.sliceBounds, Instr.sliceBound, asIntOf, hb.1, hb.2.1, e3, run_sizeOf hs, e2, Addr.add_lit]
end
end steps
end Go.Proofs.YthcaejaaalkglaaGreatDoor.X
/- Pairs of numbers compared. -/
namespace Go.Proofs.YthcaejaaalkglaaGreatDoor.X
open Go
set_option linter.unusedVariables false
set_option linter.unusedSimpArgs false
theorem run_eq_pair {P : Program} {w : World} {t e : TypeId} {k : IntKind} {a b c d : Int} (hu : P.underlying t = some (.array 2 e)) (he : P.underlying e = some (.int k)) (hs : sizeB P e 1 = true) (hsc : scalarB P e = true) : (Op.equal t (.agg #[.int k a, .int k b]) (.agg #[.int k c, .int k d])).run P w = .ok (a == c && b == d) w := by
  unfold Op.equal
  rw [show Op.maxDepth = 9998 + 1 + 1 from rfl, Op.equalIn]
  have h1 : ∀ (xs : Array Value) (i : Nat) (v : Value), xs[i]? = some v → (part e xs i).run P w = .ok v w := fun xs i v h => by
    simp [part, run_isAgg_scalar hsc, h]
  simp only [Sem.run_bind, run_underlying hu, Result.andThen_ok, run_sizeOf hs, Std.Legacy.Range.forIn_eq_forIn_range', Std.Legacy.Range.size]
  simp [List.range', h1 #[.int k a, .int k b] 0 (.int k a) rfl, h1 #[.int k a, .int k b] 1 (.int k b) rfl, h1 #[.int k c, .int k d] 0 (.int k c) rfl, h1 #[.int k c, .int k d] 1 (.int k d) rfl, run_equalIn_int w _ e k k _ _ he]
  cases h : (a == c) <;> cases h' : (b == d) <;> simp_all
section steps
variable {P : Program} {n : Nat} {ops : Array Oper} {Q : Post} {rest : List Oper} {ρ : Env} {w : World} {ty : TypeId} {pos : String} {af : Array Edge} {d : Nat}
theorem r_neqPr {t u e : TypeId} {x y : Operand} {k : IntKind} {a b c c' : Int} {dd : Option Nat} {gg : Option (Nat × Bool)} (hx : ev ρ x = .agg [.int k a, .int k b].toArray) (hy : ev ρ y = .agg [.int k c, .int k c'].toArray) (hg : P.eqGuardType P.depth t = false) (hu : P.underlying t = some (.array 2 e)) (he : P.underlying e = some (.int k)) (hs : sizeB P e 1 = true) (hsc : scalarB P e = true) : (execOp (ev ρ) ⟨dd, .binOp .neq t x y u, ty, pos, af, gg⟩).run P w = .ok (.value (.bool (decide (¬ (a = c ∧ b = c'))))) w := by
  have h := run_eqGuard_agg (P := P) w .neq t x y #[.int k a, .int k b] #[.int k c, .int k c'] hg
  have h2 := run_eq_pair (w := w) (a := a) (b := b) (c := c) (d := c') hu he hs hsc
  have e2 : (binOp .neq t (.agg #[.int k a, .int k b]) (.agg #[.int k c, .int k c'])).run P w = .ok (.bool (!(a == c && b == c'))) w := by
    simp only [binOp]
    simp [h2]
  have e3 : (!(a == c && b == c')) = decide (¬ (a = c ∧ b = c')) := by
    by_cases h1 : a = c <;> by_cases h2 : b = c' <;> simp [h1, h2]
  rw [e3] at e2
  simp only [execOp, hx, hy, Sem.run_bind, h, Result.andThen_ok, e2, Sem.run_pure, Sem.run_map]
theorem neqPr {t u e : TypeId} {x y : Operand} {k : IntKind} {a b c c' : Int} (hx : ev ρ x = .agg [.int k a, .int k b].toArray) (hy : ev ρ y = .agg [.int k c, .int k c'].toArray) (hg : P.eqGuardType P.depth t = false) (hu : P.underlying t = some (.array 2 e)) (he : P.underlying e = some (.int k)) (hs : sizeB P e 1 = true) (hsc : scalarB P e = true) (hn : Nat.blt d n = true) (kk : wl P n ops Q rest (upd ρ d (.bool (decide (¬ (a = c ∧ b = c'))))) w) : wl P n ops Q (⟨some d, .binOp .neq t x y u, ty, pos, af, none⟩ :: rest) ρ w :=
  val rfl rfl hn (r_neqPr hx hy hg hu he hs hsc) kk
end steps
end Go.Proofs.YthcaejaaalkglaaGreatDoor.X
/- Arrays of numbers compared. -/
namespace Go.Proofs.YthcaejaaalkglaaGreatDoor.X
open Go
set_option linter.unusedVariables false
set_option linter.unusedSimpArgs false
theorem run_eq_ints {P : Program} {w : World} {t e : TypeId} {k : IntKind} {n : Nat} {xs1 xs2 : List Int} (hu : P.underlying t = some (.array n e)) (he : P.underlying e = some (.int k)) (hs : sizeB P e 1 = true) (hsc : scalarB P e = true) (ha : xs1.length = n) (hb : xs2.length = n) :
    (Op.equal t (.agg (xs1.map (Value.int k)).toArray) (.agg (xs2.map (Value.int k)).toArray)).run P w = .ok (decide (xs1 = xs2)) w := by
  unfold Op.equal
  rw [show Op.maxDepth = 9998 + 1 + 1 from rfl, Op.equalIn]
  have h1 : ∀ (xs : Array Value) (i : Nat) (v : Value), xs[i]? = some v → (part e xs i).run P w = .ok v w := fun xs i v h => by
    simp [part, run_isAgg_scalar hsc, h]
  have hg : ∀ (l : List Int) (i : Nat) (h : i < l.length), (l.map (Value.int k)).toArray[i]? = some (.int k l[i]) := fun l i h => by simp [h]
  simp only [Sem.run_bind, run_underlying hu, Result.andThen_ok, run_sizeOf hs, Std.Legacy.Range.forIn_eq_forIn_range', Std.Legacy.Range.size]
  simp only [Nat.sub_zero, Nat.add_sub_cancel, Nat.div_one]
  have hP : ∃ s, List.range' 0 n 1 = List.range' s (List.range' 0 n 1).length 1 ∧ s + (List.range' 0 n 1).length = n ∧ xs1.take s = xs2.take s := ⟨0, by simp, by simp, by simp⟩
  generalize List.range' 0 n 1 = l at hP ⊢
  induction l with
  | nil =>
    obtain ⟨s, h2, h3, h4⟩ := hP
    have : xs1 = xs2 := by
      simp at h3
      rw [List.take_of_length_le (by omega), List.take_of_length_le (by omega)] at h4; exact h4
    simp [this]
  | cons i l ih =>
    obtain ⟨s, h2, h3, h4⟩ := hP
    simp only [List.length_cons, List.range'_succ, List.cons.injEq] at h2 h3
    obtain ⟨rfl, h2⟩ := h2
    have hsa : i < xs1.length := by omega
    have hsb : i < xs2.length := by omega
    simp only [List.forIn_cons, Sem.run_bind, Nat.mul_one, h1 _ _ _ (hg xs1 i hsa), h1 _ _ _ (hg xs2 i hsb), Result.andThen_ok, run_equalIn_int w _ e k k _ _ he]
    by_cases hc : xs1[i] = xs2[i]
    · have ht' : xs1.take (i + 1) = xs2.take (i + 1) := by
        rw [List.take_add_one, List.take_add_one, h4]; simp [hsa, hsb, hc]
      have := ih ⟨i + 1, by simpa using h2, by omega, ht'⟩
      simp only [Nat.mul_one] at this
      simpa [hc] using this
    · have hne : xs1 ≠ xs2 := fun e => hc (by subst e; rfl)
      simp [hc, hne]
section steps
variable {P : Program} {n : Nat} {ops : Array Oper} {Q : Post} {rest : List Oper} {ρ : Env} {w : World} {ty : TypeId} {pos : String} {af : Array Edge} {d : Nat}
theorem r_neqAr {t u e : TypeId} {x y : Operand} {k : IntKind} {m : Nat} {xs1 xs2 : List Int} {dd : Option Nat} {gg : Option (Nat × Bool)} (hx : ev ρ x = .agg (xs1.map (Value.int k)).toArray) (hy : ev ρ y = .agg (xs2.map (Value.int k)).toArray) (hg : P.eqGuardType P.depth t = false) (hu : P.underlying t = some (.array m e)) (he : P.underlying e = some (.int k)) (hs : sizeB P e 1 = true) (hsc : scalarB P e = true) (ha : xs1.length = m) (hb : xs2.length = m) : (execOp (ev ρ) ⟨dd, .binOp .neq t x y u, ty, pos, af, gg⟩).run P w = .ok (.value (.bool (decide (xs1 ≠ xs2)))) w := by
  have h := run_eqGuard_agg (P := P) w .neq t x y (xs1.map (Value.int k)).toArray (xs2.map (Value.int k)).toArray hg
  have h2 := run_eq_ints (w := w) hu he hs hsc ha hb
  have e2 : (binOp .neq t (.agg (xs1.map (Value.int k)).toArray) (.agg (xs2.map (Value.int k)).toArray)).run P w = .ok (.bool (decide (xs1 ≠ xs2))) w := by
    simp only [binOp]
    simp [h2]
  simp only [execOp, hx, hy, Sem.run_bind, h, Result.andThen_ok, e2, Sem.run_pure, Sem.run_map]
theorem neqAr {t u e : TypeId} {x y : Operand} {k : IntKind} {m : Nat} {xs1 xs2 : List Int} (hx : ev ρ x = .agg (xs1.map (Value.int k)).toArray) (hy : ev ρ y = .agg (xs2.map (Value.int k)).toArray) (hg : P.eqGuardType P.depth t = false) (hu : P.underlying t = some (.array m e)) (he : P.underlying e = some (.int k)) (hs : sizeB P e 1 = true) (hsc : scalarB P e = true) (ha : xs1.length = m) (hb : xs2.length = m) (hn : Nat.blt d n = true) (kk : wl P n ops Q rest (upd ρ d (.bool (decide (xs1 ≠ xs2)))) w) : wl P n ops Q (⟨some d, .binOp .neq t x y u, ty, pos, af, none⟩ :: rest) ρ w :=
  val rfl rfl hn (r_neqAr hx hy hg hu he hs hsc ha hb) kk
theorem r_eqlAr {t u e : TypeId} {x y : Operand} {k : IntKind} {m : Nat} {xs1 xs2 : List Int} {dd : Option Nat} {gg : Option (Nat × Bool)} (hx : ev ρ x = .agg (xs1.map (Value.int k)).toArray) (hy : ev ρ y = .agg (xs2.map (Value.int k)).toArray) (hg : P.eqGuardType P.depth t = false) (hu : P.underlying t = some (.array m e)) (he : P.underlying e = some (.int k)) (hs : sizeB P e 1 = true) (hsc : scalarB P e = true) (ha : xs1.length = m) (hb : xs2.length = m) : (execOp (ev ρ) ⟨dd, .binOp .eql t x y u, ty, pos, af, gg⟩).run P w = .ok (.value (.bool (decide (xs1 = xs2)))) w := by
  have h := run_eqGuard_agg (P := P) w .eql t x y (xs1.map (Value.int k)).toArray (xs2.map (Value.int k)).toArray hg
  have h2 := run_eq_ints (w := w) hu he hs hsc ha hb
  have e2 : (binOp .eql t (.agg (xs1.map (Value.int k)).toArray) (.agg (xs2.map (Value.int k)).toArray)).run P w = .ok (.bool (decide (xs1 = xs2))) w := by
    simp only [binOp]
    simp [h2]
  simp only [execOp, hx, hy, Sem.run_bind, h, Result.andThen_ok, e2, Sem.run_pure, Sem.run_map]
theorem eqlAr {t u e : TypeId} {x y : Operand} {k : IntKind} {m : Nat} {xs1 xs2 : List Int} (hx : ev ρ x = .agg (xs1.map (Value.int k)).toArray) (hy : ev ρ y = .agg (xs2.map (Value.int k)).toArray) (hg : P.eqGuardType P.depth t = false) (hu : P.underlying t = some (.array m e)) (he : P.underlying e = some (.int k)) (hs : sizeB P e 1 = true) (hsc : scalarB P e = true) (ha : xs1.length = m) (hb : xs2.length = m) (hn : Nat.blt d n = true) (kk : wl P n ops Q rest (upd ρ d (.bool (decide (xs1 = xs2)))) w) : wl P n ops Q (⟨some d, .binOp .eql t x y u, ty, pos, af, none⟩ :: rest) ρ w :=
  val rfl rfl hn (r_eqlAr hx hy hg hu he hs hsc ha hb) kk
/-- Rows of bytes. -/
theorem Bs_ints (xs : List UInt8) : Bs xs = (xs.map fun b => (b.toNat : Int)).map (Value.int .u8) := by simp [Bs, u8v, Function.comp_def]
theorem ints_inj {xs ys : List UInt8} : (xs.map fun b => (b.toNat : Int)) = (ys.map fun b => (b.toNat : Int)) ↔ xs = ys := by
  constructor
  · intro h
    refine List.map_inj_right (f := fun b : UInt8 => (b.toNat : Int)) (fun a b e => ?_) |>.1 h
    exact UInt8.toNat.inj (by omega)
  · rintro rfl; rfl
theorem r_eqlBs {t u e : TypeId} {x y : Operand} {m : Nat} {xs ys : List UInt8} {dd : Option Nat} {gg : Option (Nat × Bool)} (hx : ev ρ x = .agg (Bs xs).toArray) (hy : ev ρ y = .agg (Bs ys).toArray) (hg : P.eqGuardType P.depth t = false) (hu : P.underlying t = some (.array m e)) (he : P.underlying e = some (.int .u8)) (hs : sizeB P e 1 = true) (hsc : scalarB P e = true) (ha : xs.length = m) (hb : ys.length = m) : (execOp (ev ρ) ⟨dd, .binOp .eql t x y u, ty, pos, af, gg⟩).run P w = .ok (.value (.bool (decide (xs = ys)))) w := by
  rw [Bs_ints] at hx hy
  rw [r_eqlAr hx hy hg hu he hs hsc (by simpa using ha) (by simpa using hb)]
  congr 3
  exact decide_eq_decide.2 ints_inj
theorem eqlBs {t u e : TypeId} {x y : Operand} {m : Nat} {xs ys : List UInt8} (hx : ev ρ x = .agg (Bs xs).toArray) (hy : ev ρ y = .agg (Bs ys).toArray) (hg : P.eqGuardType P.depth t = false) (hu : P.underlying t = some (.array m e)) (he : P.underlying e = some (.int .u8)) (hs : sizeB P e 1 = true) (hsc : scalarB P e = true) (ha : xs.length = m) (hb : ys.length = m) (hn : Nat.blt d n = true) (kk : wl P n ops Q rest (upd ρ d (.bool (decide (xs = ys)))) w) : wl P n ops Q (⟨some d, .binOp .eql t x y u, ty, pos, af, none⟩ :: rest) ρ w :=
  val rfl rfl hn (r_eqlBs hx hy hg hu he hs hsc ha hb) kk
end steps
end Go.Proofs.YthcaejaaalkglaaGreatDoor.X
/- Numbers of four and eight bytes, the lowest first. -/
namespace Go.Proofs.YthcaejaaalkglaaGreatDoor.X
open Go
set_option linter.unusedVariables false
/-- The number that some bytes say. -/
def leV : List UInt8 → Int
  | [] => 0
  | b :: r => (b.toNat : Int) + 256 * leV r
theorem leV_leB : ∀ (n : Nat) {v : Int}, 0 ≤ v → v < 256 ^ n → leV (leB n v) = v
  | 0, v, h, h2 => by simp at h2; simp [leB, leV]; omega
  | n + 1, v, h, h2 => by
    have h3 : v / 256 < 256 ^ n := by rw [Int.pow_succ] at h2; exact Int.ediv_lt_of_lt_mul (by decide) h2
    have ih := leV_leB n (v := v / 256) (by omega) h3
    have e : ((b8 (v % 256)).toNat : Int) = v % 256 := by
      have := u8v_b8 (a := v % 256) (by omega)
      unfold u8v at this
      simpa using this
    rw [leB, leV, ih, e]; omega
theorem leV_rng : ∀ (bs : List UInt8), 0 ≤ leV bs ∧ leV bs < 256 ^ bs.length
  | [] => by simp [leV]
  | b :: r => by
    have ih := leV_rng r
    have := b.toNat_lt
    rw [leV, List.length_cons, Int.pow_succ]; omega
theorem bor_u32 {x y : Nat} (hx : x < 4294967296) (hy : y < 4294967296) : bits .or .u32 (x : Int) (y : Int) = ((x ||| y : Nat) : Int) := by
  have e : bits .or .u32 (x : Int) (y : Int) = IntKind.u32.wrap ((BitVec.ofInt 32 (x : Int) ||| BitVec.ofInt 32 (y : Int)).toNat : Int) := rfl
  have hx' : (BitVec.ofInt 32 (x : Int)).toNat = x := by rw [BitVec.toNat_ofInt]; omega
  have hy' : (BitVec.ofInt 32 (y : Int)).toNat = y := by rw [BitVec.toNat_ofInt]; omega
  have hlt : x ||| y < 4294967296 := Nat.or_lt_two_pow (n := 32) hx hy
  rw [e, BitVec.toNat_or, hx', hy', w_u32 (by omega)]
theorem mask_rng32 (y : Int) (k : Nat) (m : Int) (hm : (BitVec.ofInt 32 m).toNat = 2 ^ k - 1 ∧ 2 ^ k - 1 ≤ 4294967295 ∧ m = ((2 ^ k - 1 : Nat) : Int)) : 0 ≤ bits .and .u32 y m ∧ bits .and .u32 y m ≤ m := by
  have e : bits .and .u32 y m = IntKind.u32.wrap ((BitVec.ofInt 32 y &&& BitVec.ofInt 32 m).toNat : Int) := rfl
  have h : (BitVec.ofInt 32 y &&& BitVec.ofInt 32 m).toNat ≤ 2 ^ k - 1 := by
    rw [BitVec.toNat_and, hm.1]; exact Nat.and_le_right
  rw [e, w_u32 (by omega)]
  omega
def hexL : List UInt8 := [48, 49, 50, 51, 52, 53, 54, 55, 56, 57, 97, 98, 99, 100, 101, 102]
theorem hex_lt : ∀ i : Fin 16, ((hexL.getD i.val 0).toNat : Int) < 128 := by decide +kernel
theorem hex_lt' {z : Int} (h : 0 ≤ z ∧ z ≤ 15) : 0 ≤ ((hexL.getD z.toNat 0).toNat : Int) ∧ ((hexL.getD z.toNat 0).toNat : Int) < 128 := ⟨by omega, hex_lt ⟨z.toNat, by omega⟩⟩
theorem four_at {cur : List UInt8} {o : Nat} (h : o + 4 ≤ cur.length) : (cur.drop o).take 4 = [cur.getD o 0, cur.getD (o + 1) 0, cur.getD (o + 2) 0, cur.getD (o + 3) 0] := by
  apply List.ext_getElem?
  intro i
  rw [List.getElem?_take]
  match i with
  | 0 => simp [List.getD_eq_getElem?_getD, show o < cur.length by omega]
  | 1 => simp [List.getD_eq_getElem?_getD, show o + 1 < cur.length by omega]
  | 2 => simp [List.getD_eq_getElem?_getD, show o + 2 < cur.length by omega]
  | 3 => simp [List.getD_eq_getElem?_getD, show o + 3 < cur.length by omega]
  | i + 4 => simp; omega
theorem hex_rng {z : Int} {k : Nat} (hz : 0 ≤ z ∧ z < 16 ^ (8 - k)) (hk : k ≤ 8) : 0 ≤ z ∧ z ≤ 4294967295 := by
  have h : (16 : Int) ^ (8 - k) ≤ 16 ^ 8 := by
    have : (16 : Nat) ^ (8 - k) ≤ 16 ^ 8 := Nat.pow_le_pow_right (by decide) (by omega)
    exact_mod_cast this
  have h8 : (16 : Int) ^ 8 = 4294967296 := by decide
  omega
theorem hex_step {z : Int} {s : List UInt8} {c : UInt8} (hz : 0 ≤ z ∧ z < 16 ^ (8 - s.length)) (h : s.length < 8) : 0 ≤ z / 16 ∧ z / 16 < 16 ^ (8 - ([c] ++ s).length) := by
  have e : 8 - s.length = (8 - ([c] ++ s).length) + 1 := by simp; omega
  rw [e, Int.pow_succ] at hz
  exact ⟨by omega, Int.ediv_lt_of_lt_mul (by decide) hz.2⟩
theorem hex_pos {z : Int} {k : Nat} (hz : 0 ≤ z ∧ z < 16 ^ (8 - k)) (hk : k ≤ 8) (h : 0 < z) : k < 8 := by
  rcases Nat.lt_or_ge k 8 with h8 | h8
  · exact h8
  · have : k = 8 := by omega
    subst this
    simp at hz
    omega
theorem or_shift {x y k : Nat} (h : x < 2 ^ k) : x ||| y * 2 ^ k = x + y * 2 ^ k := by
  have := Nat.shiftLeft_add_eq_or_of_lt h y
  rw [Nat.shiftLeft_eq] at this
  rw [Nat.or_comm, ← this, Nat.add_comm]
theorem le32_eq (b0 b1 b2 b3 : UInt8) : bits .or .u32 (bits .or .u32 (bits .or .u32 (b0.toNat : Int) ((b1.toNat : Int) * 256)) ((b2.toNat : Int) * 65536)) ((b3.toNat : Int) * 16777216) = leV [b0, b1, b2, b3] := by
  have h0 := b0.toNat_lt; have h1 := b1.toNat_lt; have h2 := b2.toNat_lt; have h3 := b3.toNat_lt
  have e1 : ((b1.toNat : Int) * 256) = ((b1.toNat * 2 ^ 8 : Nat) : Int) := by omega
  have e2 : ((b2.toNat : Int) * 65536) = ((b2.toNat * 2 ^ 16 : Nat) : Int) := by omega
  have e3 : ((b3.toNat : Int) * 16777216) = ((b3.toNat * 2 ^ 24 : Nat) : Int) := by omega
  rw [e1, e2, e3, bor_u32 (by omega) (by omega), or_shift (by omega), bor_u32 (by omega) (by omega), or_shift (by omega), bor_u32 (by omega) (by omega), or_shift (by omega)]
  simp only [leV]; omega
theorem put4 (cur : List UInt8) (o : Nat) (x : Int) (h : 0 ≤ x ∧ x ≤ 4294967295) : setsL cur o (leB 4 x) = (((cur.set (o + (0 : Int).toNat * 1) (b8 (x % 256))).set (o + (1 : Int).toNat * 1) (b8 (x / 256 % 256))).set (o + (2 : Int).toNat * 1) (b8 (x / 65536 % 256))).set (o + (3 : Int).toNat * 1) (b8 (x / 16777216)) := by
  rw [show x / 65536 = x / 256 / 256 by omega, show x / 16777216 = x / 256 / 256 / 256 % 256 by omega]
  rfl
theorem bor_u64 {x y : Nat} (hx : x < 18446744073709551616) (hy : y < 18446744073709551616) : bits .or .u64 (x : Int) (y : Int) = ((x ||| y : Nat) : Int) := by
  have e : bits .or .u64 (x : Int) (y : Int) = IntKind.u64.wrap ((BitVec.ofInt 64 (x : Int) ||| BitVec.ofInt 64 (y : Int)).toNat : Int) := rfl
  have hx' : (BitVec.ofInt 64 (x : Int)).toNat = x := by rw [BitVec.toNat_ofInt]; omega
  have hy' : (BitVec.ofInt 64 (y : Int)).toNat = y := by rw [BitVec.toNat_ofInt]; omega
  have hlt : x ||| y < 18446744073709551616 := Nat.or_lt_two_pow (n := 64) hx hy
  rw [e, BitVec.toNat_or, hx', hy', w_u64 (by omega)]
theorem or64 {y : Int} {b : Nat} (hy : 0 ≤ y ∧ y ≤ 72057594037927935) (hb : b < 256) : bits .or .u64 (y * 256) (b : Int) = b + 256 * y := by
  obtain ⟨k, rfl⟩ := Int.eq_ofNat_of_zero_le hy.1
  have e : (k : Int) * 256 = ((k * 2 ^ 8 : Nat) : Int) := by omega
  rw [e, bor_u64 (by omega) (by omega), Nat.or_comm, or_shift (by omega)]
  omega
theorem leV_at {l : List UInt8} {i : Nat} (h : i < l.length) : leV (l.drop i) = ((l.getD i 0).toNat : Int) + 256 * leV (l.drop (i + 1)) := by
  rw [List.drop_eq_getElem_cons h, leV]
  simp [List.getD_eq_getElem?_getD, h]
theorem leV_le7 {l : List UInt8} (h : l.length ≤ 7) : 0 ≤ leV l ∧ leV l ≤ 72057594037927935 := by
  have := leV_rng l
  have h2 : ((256 ^ l.length : Nat) : Int) ≤ ((256 ^ 7 : Nat) : Int) := Int.ofNat_le.2 (Nat.pow_le_pow_right (by decide) h)
  rw [Int.natCast_pow, Int.natCast_pow] at h2
  rw [show ((256 : Nat) : Int) = 256 from rfl] at h2
  have h3 : (256 : Int) ^ 7 = 72057594037927936 := by decide
  omega
theorem or64s {x : Int} {b : UInt8} (k : Nat) {K : Int} (hK : K = ((2 ^ k : Nat) : Int)) (hk : k ≤ 56) (hx : 0 ≤ x ∧ x < K) : bits .or .u64 x ((b.toNat : Int) * K) = x + (b.toNat : Int) * K := by
  subst hK
  obtain ⟨y, rfl⟩ := Int.eq_ofNat_of_zero_le hx.1
  have hb := b.toNat_lt
  have h1 : (2 : Nat) ^ k ≤ 2 ^ 56 := Nat.pow_le_pow_right (by decide) hk
  have h2 : y < 2 ^ k := by have := hx.2; exact_mod_cast this
  have h3 : b.toNat * 2 ^ k ≤ 255 * 2 ^ 56 := Nat.mul_le_mul (by omega) h1
  have e : ((b.toNat : Int) * ((2 ^ k : Nat) : Int)) = ((b.toNat * 2 ^ k : Nat) : Int) := by rw [Int.natCast_mul]
  rw [e, bor_u64 (by omega) (by omega), or_shift h2, Int.natCast_add]
theorem le64_eq (b0 b1 b2 b3 b4 b5 b6 b7 : UInt8) : bits .or .u64 (bits .or .u64 (bits .or .u64 (bits .or .u64 (bits .or .u64 (bits .or .u64 (bits .or .u64 (b0.toNat : Int) ((b1.toNat : Int) * 256)) ((b2.toNat : Int) * 65536)) ((b3.toNat : Int) * 16777216)) ((b4.toNat : Int) * 4294967296)) ((b5.toNat : Int) * 1099511627776)) ((b6.toNat : Int) * 281474976710656)) ((b7.toNat : Int) * 72057594037927936) = leV [b0, b1, b2, b3, b4, b5, b6, b7] := by
  have h0 := b0.toNat_lt; have h1 := b1.toNat_lt; have h2 := b2.toNat_lt; have h3 := b3.toNat_lt; have h4 := b4.toNat_lt; have h5 := b5.toNat_lt; have h6 := b6.toNat_lt; have h7 := b7.toNat_lt
  rw [or64s (K := 256) 8 (by decide) (by decide) (by omega), or64s (K := 65536) 16 (by decide) (by decide) (by omega), or64s (K := 16777216) 24 (by decide) (by decide) (by omega), or64s (K := 4294967296) 32 (by decide) (by decide) (by omega), or64s (K := 1099511627776) 40 (by decide) (by decide) (by omega), or64s (K := 281474976710656) 48 (by decide) (by decide) (by omega), or64s (K := 72057594037927936) 56 (by decide) (by decide) (by omega)]
  simp only [leV]; omega
theorem bor_u16 {x y : Nat} (hx : x < 65536) (hy : y < 65536) : bits .or .u16 (x : Int) (y : Int) = ((x ||| y : Nat) : Int) := by
  have e : bits .or .u16 (x : Int) (y : Int) = IntKind.u16.wrap ((BitVec.ofInt 16 (x : Int) ||| BitVec.ofInt 16 (y : Int)).toNat : Int) := rfl
  have hx' : (BitVec.ofInt 16 (x : Int)).toNat = x := by rw [BitVec.toNat_ofInt]; omega
  have hy' : (BitVec.ofInt 16 (y : Int)).toNat = y := by rw [BitVec.toNat_ofInt]; omega
  have hlt : x ||| y < 65536 := Nat.or_lt_two_pow (n := 16) hx hy
  rw [e, BitVec.toNat_or, hx', hy', w_u16 (by omega)]
theorem le16_eq (b0 b1 : UInt8) : bits .or .u16 (b0.toNat : Int) ((b1.toNat : Int) * 256) = leV [b0, b1] := by
  have h0 := b0.toNat_lt; have h1 := b1.toNat_lt
  have e1 : ((b1.toNat : Int) * 256) = ((b1.toNat * 2 ^ 8 : Nat) : Int) := by omega
  rw [e1, bor_u16 (by omega) (by omega), or_shift (by omega)]
  simp only [leV]; omega
theorem two_at {cur : List UInt8} {o : Nat} (h : o + 2 ≤ cur.length) : (cur.drop o).take 2 = [cur.getD o 0, cur.getD (o + 1) 0] := by
  refine List.ext_getElem? fun i => ?_
  match i with
  | 0 => simp [List.getD_eq_getElem?_getD, show o < cur.length by omega]
  | 1 => simp [List.getD_eq_getElem?_getD, show o + 1 < cur.length by omega]
  | i + 2 => simp; omega
theorem eight_at {cur : List UInt8} {o : Nat} (h : o + 8 ≤ cur.length) : (cur.drop o).take 8 = [cur.getD o 0, cur.getD (o + 1) 0, cur.getD (o + 2) 0, cur.getD (o + 3) 0, cur.getD (o + 4) 0, cur.getD (o + 5) 0, cur.getD (o + 6) 0, cur.getD (o + 7) 0] := by
  have := four_at (cur := cur) (o := o) (by omega)
  have h2 := four_at (cur := cur) (o := o + 4) (by omega)
  rw [show 8 = 4 + 4 from rfl, List.take_add, this, List.drop_drop, h2]
  rfl
/-- The value of the bytes from the last down. -/
theorem leV_down {ds : List UInt8} {p n m : Nat} (h : p + n ≤ ds.length) (hm : m < n) : leV ((ds.drop (p + (n - (m + 1)))).take (m + 1)) = ((ds.getD (p + (n - (m + 1))) 0).toNat : Int) + 256 * leV ((ds.drop (p + (n - m))).take m) := by
  rw [List.drop_eq_getElem_cons (by omega), List.take_succ_cons, leV, show p + (n - (m + 1)) + 1 = p + (n - m) by omega]
  simp [List.getD_eq_getElem?_getD, show p + (n - (m + 1)) < ds.length by omega]
end Go.Proofs.YthcaejaaalkglaaGreatDoor.X
/- Walks of functions, printed by a program of this claim. -/
namespace Go.Proofs.YthcaejaaalkglaaGreatDoor.X
set_option linter.unusedVariables false
set_option linter.unusedSimpArgs false
open Go Go.RowKit

namespace PF
theorem ag87_16 : aggB Tryz.prog 87 16 = true := by kernel_rfl
theorem bo87 : buildOK Tryz.prog 87 = true := by kernel_rfl
theorem pl87_0 : placeOf Tryz.prog 87 0 = some (0, 1) := by kernel_rfl
theorem pl87_1 : placeOf Tryz.prog 87 1 = some (1, 1) := by kernel_rfl
theorem pl87_10 : placeOf Tryz.prog 87 10 = some (10, 1) := by kernel_rfl
theorem pl87_11 : placeOf Tryz.prog 87 11 = some (11, 1) := by kernel_rfl
theorem pl87_12 : placeOf Tryz.prog 87 12 = some (12, 1) := by kernel_rfl
theorem pl87_13 : placeOf Tryz.prog 87 13 = some (13, 1) := by kernel_rfl
theorem pl87_14 : placeOf Tryz.prog 87 14 = some (14, 1) := by kernel_rfl
theorem pl87_15 : placeOf Tryz.prog 87 15 = some (15, 1) := by kernel_rfl
theorem pl87_2 : placeOf Tryz.prog 87 2 = some (2, 1) := by kernel_rfl
theorem pl87_3 : placeOf Tryz.prog 87 3 = some (3, 1) := by kernel_rfl
theorem pl87_4 : placeOf Tryz.prog 87 4 = some (4, 1) := by kernel_rfl
theorem pl87_5 : placeOf Tryz.prog 87 5 = some (5, 1) := by kernel_rfl
theorem pl87_6 : placeOf Tryz.prog 87 6 = some (6, 1) := by kernel_rfl
theorem pl87_7 : placeOf Tryz.prog 87 7 = some (7, 1) := by kernel_rfl
theorem pl87_8 : placeOf Tryz.prog 87 8 = some (8, 1) := by kernel_rfl
theorem pl87_9 : placeOf Tryz.prog 87 9 = some (9, 1) := by kernel_rfl
theorem sc5 : scalarB Tryz.prog 5 = true := by kernel_rfl
theorem sz5_1 : sizeB Tryz.prog 5 1 = true := by kernel_rfl
theorem ze87 : zeroL Tryz.prog 87 = some [.int .i64 0, .int .i64 0, .int .i64 0, .int .i64 0, .int .i64 0, .int .i64 0, .int .i64 0, .int .i64 0, .int .i64 0, .int .i64 0, .int .i64 0, .int .i64 0, .int .i64 0, .int .i64 0, .int .i64 0, .int .i64 0] := by kernel_rfl
end PF
open PF

set_option maxRecDepth 100000 in
set_option maxHeartbeats 1000000 in
theorem c_specCrc (w : World) (B : Option Addr) (m c : Nat) (bs : List UInt8) (hb : RB w B m bs) (hm : m ≤ 9223372036854775806) : Calls Tryz.prog 46 #[.slice B m c] w (Ret fun v w' => v = .int .u32 (crc32 bs) ∧ Fr [] w w') := by
 refine enter (fun ρ => ρ 2) Tryz.func46 rfl rfl rfl (res1 rfl) ?_
 have H := SH.nil w
 have hbl := hb.1
 refine sq ?_
 refine rg ?_
 refine asg (v := .int .u32 _) rfl rfl ?_
 refine nl ?_
 refine then_n ?_
 refine sq ?_
 refine rg ?_
 refine asg (v := .int .u32 _) rfl rfl ?_
 refine nl ?_
 refine then_n ?_
 refine sq ?_
 refine sq ?_
 refine rg ?_
 refine mv (v := .slice _ _ _) rfl rfl ?_
 refine lnS rfl Tryz.underlying30 rfl ?_
 refine mv (v := .int .i64 _) rfl rfl ?_
 refine nl ?_
 refine then_n ?_
 refine bk ?_
 refine lpM (α := Nat × Int) [3, 5, 6, 9, 10, 11, 12, 13, 14, 15, 16, 17, 18, 19, 20, 21, 22, 23, 24, 25, 26, 27, 28] (fun (i, y) => [(3, .int .u32 y), (9, .int .i64 (i : Int))]) (fun (i, y) w' => i ≤ m ∧ gC bs 4294967295 = gC (bs.drop i) y ∧ SH w [] w' []) (fun (i, y) => m - i) (0, 4294967295) ?_ (fC (by first | rfl | exact congrArg (Value.int _) (by first | omega | assumption | (symm; assumption) | (simp; done) | (simp; omega)) | exact congrArg (fun n => Value.slice _ n _) (by first | omega | (simp; done) | (simp; omega))) (fC (by first | rfl | exact congrArg (Value.int _) (by first | omega | assumption | (symm; assumption) | (simp; done) | (simp; omega)) | exact congrArg (fun n => Value.slice _ n _) (by first | omega | (simp; done) | (simp; omega))) (fN _))) ?_
 ·exact ⟨by omega, by simp, H⟩
 ·rintro ⟨i, y⟩ ρx w1 ⟨hi, hy, H⟩
  refine sq ?_
  refine rg ?_
  refine lss rfl rfl rfl ?_
  refine nl ?_
  refine then_n ?_
  refine sq ?_
  refine cd rfl (fun hc1 => ?_) (fun hc1 => ?_)
  ·obtain ⟨ad, rfl, hcell⟩ := hb.2 i (by omega)
   have hcell := H.fr.cell hcell (by simp)
   refine sk ?_
   refine then_n ?_
   refine sq ?_
   refine bk ?_
   refine sq ?_
   refine rg ?_
   refine iA rfl rfl Tryz.underlying30 sz5_1 (by omega) rfl ?_
   refine lc rfl (by first | assumption | exact H.fr.cell (by assumption) (by simp)) sc5 rfl ?_
   refine asg (v := .int .u8 _) rfl rfl ?_
   refine nl ?_
   refine then_n ?_
   refine sq ?_
   refine rg ?_
   refine mv (v := .int .u32 _) rfl rfl ?_
   refine mv (v := .int .u8 _) rfl rfl ?_
   refine cvi rfl rfl Tryz.underlying58 (by first | exact w_u32 (by omega) | exact w_u32 (rng_u32 _) | exact m_u32 _) rfl ?_
   refine bxor rfl rfl rfl rfl ?_
   refine asg (v := .int .u32 _) rfl rfl ?_
   refine nl ?_
   refine then_n ?_
   refine sq ?_
   refine rg ?_
   refine mv (v := .int .i64 _) rfl rfl ?_
   refine nl ?_
   refine then_n ?_
   refine bk ?_
   refine lpM (α := Nat × Int) [3, 6, 17, 18, 19, 20, 21, 22, 23, 24, 25, 26, 27] (fun (j, z) => [(3, .int .u32 z), (17, .int .i64 (j : Int))]) (fun (j, z) w' => j ≤ 8 ∧ gN (8 - j) z = gByte y (bs.getD i 0) ∧ SH w [] w' []) (fun (j, z) => 8 - j) (0, bits .xor .u32 y ((bs.getD i 0).toNat : Int)) ?_ (fC (by first | rfl | exact congrArg (Value.int _) (by first | omega | assumption | (symm; assumption) | (simp; done) | (simp; omega)) | exact congrArg (fun n => Value.slice _ n _) (by first | omega | (simp; done) | (simp; omega))) (fC (by first | rfl | exact congrArg (Value.int _) (by first | omega | assumption | (symm; assumption) | (simp; done) | (simp; omega)) | exact congrArg (fun n => Value.slice _ n _) (by first | omega | (simp; done) | (simp; omega))) (fN _))) ?_
   ·exact ⟨by omega, gByte_eq _ _, H⟩
   ·rintro ⟨j, z⟩ ρx w2 ⟨hj, hz, H⟩
    refine sq ?_
    refine rg ?_
    refine lss rfl rfl rfl ?_
    refine nl ?_
    refine then_n ?_
    refine sq ?_
    refine cd rfl (fun hc2 => ?_) (fun hc2 => ?_)
    ·refine sk ?_
     refine then_n ?_
     refine sq ?_
     refine bk ?_
     refine sq ?_
     refine rg ?_
     refine mv (v := .int .u32 _) rfl rfl ?_
     refine band rfl rfl rfl rfl ?_
     refine asg (v := .int .u32 _) rfl rfl ?_
     refine nl ?_
     refine then_n ?_
     refine sq ?_
     refine rg ?_
     refine mv (v := .int .u32 _) rfl rfl ?_
     refine shrK (s := 1) (p := 2) rfl rfl (by decide) (by decide) rfl rfl ?_
     refine asg (v := .int .u32 _) rfl rfl ?_
     refine nl ?_
     refine then_n ?_
     refine sq ?_
     refine rg ?_
     refine mv (v := .int .u32 _) rfl rfl ?_
     refine eql rfl rfl rfl ?_
     refine nl ?_
     refine then_n ?_
     refine cd rfl (fun hc3 => ?_) (fun hc3 => ?_)
     ·refine rg ?_
      refine mv (v := .int .u32 _) rfl rfl ?_
      refine bxor rfl rfl rfl rfl ?_
      refine asg (v := .int .u32 _) rfl rfl ?_
      refine nl ?_
      refine in_n ?_
      refine then_n ?_
      refine rg ?_
      refine add rfl rfl (by first | exact w_i64 (by omega) | exact w_i64 (rng_i64 _) | rfl) rfl ?_
      refine mv (v := .int .i64 _) rfl rfl ?_
      refine nl ?_
      refine loop_n ?_
      exact ⟨(j + 1, bits .xor .u32 (z / 2) 3988292384), (by (try dsimp only); omega), ⟨by omega, by rw [← hz, show 8 - j = (8 - (j + 1)) + 1 by omega]; simp only [gN, gBit]; rw [if_pos (by omega)], H⟩, (fC (by first | rfl | exact congrArg (Value.int _) (by first | omega | assumption | (symm; assumption) | (simp; done) | (simp; omega)) | exact congrArg (fun n => Value.slice _ n _) (by first | omega | (simp; done) | (simp; omega))) (fC (by first | rfl | exact congrArg (Value.int _) (by first | omega | assumption | (symm; assumption) | (simp; done) | (simp; omega)) | exact congrArg (fun n => Value.slice _ n _) (by first | omega | (simp; done) | (simp; omega))) (fN _))), (by repeat (first | exact Agree.setL rfl Agree.mask | exact Agree.self _ _ | refine Agree.upd rfl ?_ | refine Agree.setL rfl ?_ | refine Agree.mask2 rfl ?_))⟩
     ·refine sk ?_
      refine in_n ?_
      refine then_n ?_
      refine rg ?_
      refine add rfl rfl (by first | exact w_i64 (by omega) | exact w_i64 (rng_i64 _) | rfl) rfl ?_
      refine mv (v := .int .i64 _) rfl rfl ?_
      refine nl ?_
      refine loop_n ?_
      exact ⟨(j + 1, z / 2), (by (try dsimp only); omega), ⟨by omega, by rw [← hz, show 8 - j = (8 - (j + 1)) + 1 by omega]; simp only [gN, gBit]; rw [if_neg (by have := gAnd1 z; omega)], H⟩, (fC (by first | rfl | exact congrArg (Value.int _) (by first | omega | assumption | (symm; assumption) | (simp; done) | (simp; omega)) | exact congrArg (fun n => Value.slice _ n _) (by first | omega | (simp; done) | (simp; omega))) (fC (by first | rfl | exact congrArg (Value.int _) (by first | omega | assumption | (symm; assumption) | (simp; done) | (simp; omega)) | exact congrArg (fun n => Value.slice _ n _) (by first | omega | (simp; done) | (simp; omega))) (fN _))), (by repeat (first | exact Agree.setL rfl Agree.mask | exact Agree.self _ _ | refine Agree.upd rfl ?_ | refine Agree.setL rfl ?_ | refine Agree.mask2 rfl ?_))⟩
    ·refine ex ?_
     refine then_e ?_
     refine loop_e ?_
     refine in_hit rfl ?_
     refine in_n ?_
     refine then_n ?_
     refine rg ?_
     refine add rfl rfl (by first | exact w_i64 (by omega) | exact w_i64 (rng_i64 _) | rfl) rfl ?_
     refine mv (v := .int .i64 _) rfl rfl ?_
     refine nl ?_
     refine loop_n ?_
     exact ⟨(i + 1, z), (by (try dsimp only); omega), ⟨by omega, by rw [hy, gC_drop bs i y (by omega), ← hz, show 8 - j = 0 by omega]; rfl, H⟩, (fC (by first | rfl | exact congrArg (Value.int _) (by first | omega | assumption | (symm; assumption) | (simp; done) | (simp; omega)) | exact congrArg (fun n => Value.slice _ n _) (by first | omega | (simp; done) | (simp; omega))) (fC (by first | rfl | exact congrArg (Value.int _) (by first | omega | assumption | (symm; assumption) | (simp; done) | (simp; omega)) | exact congrArg (fun n => Value.slice _ n _) (by first | omega | (simp; done) | (simp; omega))) (fN _))), (by repeat (first | exact Agree.setL rfl Agree.mask | exact Agree.self _ _ | refine Agree.upd rfl ?_ | refine Agree.setL rfl ?_ | refine Agree.mask2 rfl ?_))⟩
  ·refine ex ?_
   refine then_e ?_
   refine loop_e ?_
   refine in_hit rfl ?_
   refine then_n ?_
   refine sq ?_
   refine rg ?_
   refine mv (v := .int .u32 _) rfl rfl ?_
   refine ucompl rfl rfl rfl ?_
   refine asg (v := .int .u32 _) rfl rfl ?_
   refine nl ?_
   refine then_n ?_
   refine rt ?_
   refine fin_r ?_
   refine ⟨congrArg (Value.int .u32) ?_, H.fr⟩
   unfold crc32
   rw [hy, List.drop_of_length_le (by omega)]; rfl

set_option maxRecDepth 100000 in
set_option maxHeartbeats 1000000 in
theorem c_zzCrc (w : World) (B : Option Addr) (m c : Nat) (bs : List UInt8) (hb : RB w B m bs) (hm : m ≤ 9223372036854775806) : Calls Tryz.prog 75 #[.slice B m c] w (Ret fun v w' => v = .int .u32 (crc32 bs) ∧ Fr [] w w') := by
 refine enter (fun ρ => ρ 2) Tryz.func75 rfl rfl rfl (res1 rfl) ?_
 have H := SH.nil w
 have hbl := hb.1
 refine sq ?_
 refine rg ?_
 refine asg (v := .int .u32 _) rfl rfl ?_
 refine nl ?_
 refine then_n ?_
 refine sq ?_
 refine rg ?_
 refine asg (v := .int .u32 _) rfl rfl ?_
 refine nl ?_
 refine then_n ?_
 refine sq ?_
 refine sq ?_
 refine rg ?_
 refine mv (v := .slice _ _ _) rfl rfl ?_
 refine lnS rfl Tryz.underlying30 rfl ?_
 refine mv (v := .int .i64 _) rfl rfl ?_
 refine nl ?_
 refine then_n ?_
 refine bk ?_
 refine lpM (α := Nat × Int) [3, 5, 8, 9, 10, 11, 12, 13, 14, 15, 16, 17, 18, 19, 20, 21, 22, 23, 24, 25, 26, 27] (fun (i, y) => [(3, .int .u32 y), (8, .int .i64 (i : Int))]) (fun (i, y) w' => i ≤ m ∧ gC bs 4294967295 = gC (bs.drop i) y ∧ SH w [] w' []) (fun (i, y) => m - i) (0, 4294967295) ?_ (fC (by first | rfl | exact congrArg (Value.int _) (by first | omega | assumption | (symm; assumption) | (simp; done) | (simp; omega)) | exact congrArg (fun n => Value.slice _ n _) (by first | omega | (simp; done) | (simp; omega))) (fC (by first | rfl | exact congrArg (Value.int _) (by first | omega | assumption | (symm; assumption) | (simp; done) | (simp; omega)) | exact congrArg (fun n => Value.slice _ n _) (by first | omega | (simp; done) | (simp; omega))) (fN _))) ?_
 ·exact ⟨by omega, by simp, H⟩
 ·rintro ⟨i, y⟩ ρx w1 ⟨hi, hy, H⟩
  refine sq ?_
  refine rg ?_
  refine lss rfl rfl rfl ?_
  refine nl ?_
  refine then_n ?_
  refine sq ?_
  refine cd rfl (fun hc1 => ?_) (fun hc1 => ?_)
  ·obtain ⟨ad, rfl, hcell⟩ := hb.2 i (by omega)
   have hcell := H.fr.cell hcell (by simp)
   refine sk ?_
   refine then_n ?_
   refine sq ?_
   refine bk ?_
   refine sq ?_
   refine rg ?_
   refine iA rfl rfl Tryz.underlying30 sz5_1 (by omega) rfl ?_
   refine lc rfl (by first | assumption | exact H.fr.cell (by assumption) (by simp)) sc5 rfl ?_
   refine asg (v := .int .u8 _) rfl rfl ?_
   refine nl ?_
   refine then_n ?_
   refine sq ?_
   refine rg ?_
   refine mv (v := .int .u32 _) rfl rfl ?_
   refine mv (v := .int .u8 _) rfl rfl ?_
   refine cvi rfl rfl Tryz.underlying58 (by first | exact w_u32 (by omega) | exact w_u32 (rng_u32 _) | exact m_u32 _) rfl ?_
   refine bxor rfl rfl rfl rfl ?_
   refine asg (v := .int .u32 _) rfl rfl ?_
   refine nl ?_
   refine then_n ?_
   refine sq ?_
   refine rg ?_
   refine mv (v := .int .i64 _) rfl rfl ?_
   refine nl ?_
   refine then_n ?_
   refine bk ?_
   refine lpM (α := Nat × Int) [3, 16, 17, 18, 19, 20, 21, 22, 23, 24, 25, 26] (fun (j, z) => [(3, .int .u32 z), (16, .int .i64 (j : Int))]) (fun (j, z) w' => j ≤ 8 ∧ gN (8 - j) z = gByte y (bs.getD i 0) ∧ SH w [] w' []) (fun (j, z) => 8 - j) (0, bits .xor .u32 y ((bs.getD i 0).toNat : Int)) ?_ (fC (by first | rfl | exact congrArg (Value.int _) (by first | omega | assumption | (symm; assumption) | (simp; done) | (simp; omega)) | exact congrArg (fun n => Value.slice _ n _) (by first | omega | (simp; done) | (simp; omega))) (fC (by first | rfl | exact congrArg (Value.int _) (by first | omega | assumption | (symm; assumption) | (simp; done) | (simp; omega)) | exact congrArg (fun n => Value.slice _ n _) (by first | omega | (simp; done) | (simp; omega))) (fN _))) ?_
   ·exact ⟨by omega, gByte_eq _ _, H⟩
   ·rintro ⟨j, z⟩ ρx w2 ⟨hj, hz, H⟩
    refine sq ?_
    refine rg ?_
    refine lss rfl rfl rfl ?_
    refine nl ?_
    refine then_n ?_
    refine sq ?_
    refine cd rfl (fun hc2 => ?_) (fun hc2 => ?_)
    ·refine sk ?_
     refine then_n ?_
     refine sq ?_
     refine bk ?_
     refine sq ?_
     refine rg ?_
     refine mv (v := .int .u32 _) rfl rfl ?_
     refine band rfl rfl rfl rfl ?_
     refine neq rfl rfl rfl ?_
     refine nl ?_
     refine then_n ?_
     refine cd rfl (fun hc3 => ?_) (fun hc3 => ?_)
     ·refine rg ?_
      refine mv (v := .int .u32 _) rfl rfl ?_
      refine shrK (s := 1) (p := 2) rfl rfl (by decide) (by decide) rfl rfl ?_
      refine bxor rfl rfl rfl rfl ?_
      refine asg (v := .int .u32 _) rfl rfl ?_
      refine nl ?_
      refine in_n ?_
      refine then_n ?_
      refine rg ?_
      refine add rfl rfl (by first | exact w_i64 (by omega) | exact w_i64 (rng_i64 _) | rfl) rfl ?_
      refine mv (v := .int .i64 _) rfl rfl ?_
      refine nl ?_
      refine loop_n ?_
      exact ⟨(j + 1, bits .xor .u32 (z / 2) 3988292384), (by (try dsimp only); omega), ⟨by omega, by rw [← hz, show 8 - j = (8 - (j + 1)) + 1 by omega]; simp only [gN, gBit]; rw [if_pos (hc3)], H⟩, (fC (by first | rfl | exact congrArg (Value.int _) (by first | omega | assumption | (symm; assumption) | (simp; done) | (simp; omega)) | exact congrArg (fun n => Value.slice _ n _) (by first | omega | (simp; done) | (simp; omega))) (fC (by first | rfl | exact congrArg (Value.int _) (by first | omega | assumption | (symm; assumption) | (simp; done) | (simp; omega)) | exact congrArg (fun n => Value.slice _ n _) (by first | omega | (simp; done) | (simp; omega))) (fN _))), (by repeat (first | exact Agree.setL rfl Agree.mask | exact Agree.self _ _ | refine Agree.upd rfl ?_ | refine Agree.setL rfl ?_ | refine Agree.mask2 rfl ?_))⟩
     ·refine rg ?_
      refine mv (v := .int .u32 _) rfl rfl ?_
      refine shrK (s := 1) (p := 2) rfl rfl (by decide) (by decide) rfl rfl ?_
      refine asg (v := .int .u32 _) rfl rfl ?_
      refine nl ?_
      refine in_n ?_
      refine then_n ?_
      refine rg ?_
      refine add rfl rfl (by first | exact w_i64 (by omega) | exact w_i64 (rng_i64 _) | rfl) rfl ?_
      refine mv (v := .int .i64 _) rfl rfl ?_
      refine nl ?_
      refine loop_n ?_
      exact ⟨(j + 1, z / 2), (by (try dsimp only); omega), ⟨by omega, by rw [← hz, show 8 - j = (8 - (j + 1)) + 1 by omega]; simp only [gN, gBit]; rw [if_neg (hc3)], H⟩, (fC (by first | rfl | exact congrArg (Value.int _) (by first | omega | assumption | (symm; assumption) | (simp; done) | (simp; omega)) | exact congrArg (fun n => Value.slice _ n _) (by first | omega | (simp; done) | (simp; omega))) (fC (by first | rfl | exact congrArg (Value.int _) (by first | omega | assumption | (symm; assumption) | (simp; done) | (simp; omega)) | exact congrArg (fun n => Value.slice _ n _) (by first | omega | (simp; done) | (simp; omega))) (fN _))), (by repeat (first | exact Agree.setL rfl Agree.mask | exact Agree.self _ _ | refine Agree.upd rfl ?_ | refine Agree.setL rfl ?_ | refine Agree.mask2 rfl ?_))⟩
    ·refine ex ?_
     refine then_e ?_
     refine loop_e ?_
     refine in_hit rfl ?_
     refine in_n ?_
     refine then_n ?_
     refine rg ?_
     refine add rfl rfl (by first | exact w_i64 (by omega) | exact w_i64 (rng_i64 _) | rfl) rfl ?_
     refine mv (v := .int .i64 _) rfl rfl ?_
     refine nl ?_
     refine loop_n ?_
     exact ⟨(i + 1, z), (by (try dsimp only); omega), ⟨by omega, by rw [hy, gC_drop bs i y (by omega), ← hz, show 8 - j = 0 by omega]; rfl, H⟩, (fC (by first | rfl | exact congrArg (Value.int _) (by first | omega | assumption | (symm; assumption) | (simp; done) | (simp; omega)) | exact congrArg (fun n => Value.slice _ n _) (by first | omega | (simp; done) | (simp; omega))) (fC (by first | rfl | exact congrArg (Value.int _) (by first | omega | assumption | (symm; assumption) | (simp; done) | (simp; omega)) | exact congrArg (fun n => Value.slice _ n _) (by first | omega | (simp; done) | (simp; omega))) (fN _))), (by repeat (first | exact Agree.setL rfl Agree.mask | exact Agree.self _ _ | refine Agree.upd rfl ?_ | refine Agree.setL rfl ?_ | refine Agree.mask2 rfl ?_))⟩
  ·refine ex ?_
   refine then_e ?_
   refine loop_e ?_
   refine in_hit rfl ?_
   refine then_n ?_
   refine sq ?_
   refine rg ?_
   refine mv (v := .int .u32 _) rfl rfl ?_
   refine ucompl rfl rfl rfl ?_
   refine asg (v := .int .u32 _) rfl rfl ?_
   refine nl ?_
   refine then_n ?_
   refine rt ?_
   refine fin_r ?_
   refine ⟨congrArg (Value.int .u32) ?_, H.fr⟩
   unfold crc32
   rw [hy, List.drop_of_length_le (by omega)]; rfl

set_option maxRecDepth 100000 in
set_option maxHeartbeats 1000000 in
theorem c_hexOf (w : World) (x : Int) (hx : 0 ≤ x ∧ x ≤ 255) : Calls Tryz.prog 41 #[.int .u8 x] w (Ret fun v w' => v = .int .i64 (hexN x) ∧ Fr [] w w') := by
 refine enter (fun ρ => ρ 2) Tryz.func41 rfl rfl rfl (res1 rfl) ?_
 have H := SH.nil w
 refine sq ?_
 refine rg ?_
 refine asg (v := .int .i64 _) rfl rfl ?_
 refine nl ?_
 refine then_n ?_
 refine sq ?_
 refine bk ?_
 refine sq ?_
 refine rg ?_
 refine mv (v := .int .u8 _) rfl rfl ?_
 refine geq rfl rfl rfl ?_
 refine mv (v := .bool _) rfl rfl ?_
 refine spd (t := 6) rfl (fun hg1 => ?_) (fun hg1 => ?_)
 ·refine gy rfl ?_
  refine mv (v := .int .u8 _) rfl rfl ?_
  refine gy rfl ?_
  refine leq rfl rfl rfl ?_
  refine pkT (v := .bool _) rfl rfl rfl ?_
  refine asg (v := .bool _) rfl rfl ?_
  refine nl ?_
  refine then_n ?_
  refine cd rfl (fun hc1 => ?_) (fun hc1 => ?_)
  ·refine sq ?_
   refine rg ?_
   refine mv (v := .int .u8 _) rfl rfl ?_
   refine sub rfl rfl (by first | exact w_u8 (by omega) | exact w_u8 (rng_u8 _) | exact m_u8 _) rfl ?_
   refine cvi rfl rfl Tryz.underlying3 (by first | exact w_i64 (by omega) | exact w_i64 (rng_i64 _) | rfl) rfl ?_
   refine asg (v := .int .i64 _) rfl rfl ?_
   refine nl ?_
   refine then_n ?_
   refine rt ?_
   refine in_r ?_
   refine then_r ?_
   refine fin_r ?_
   refine ⟨congrArg (Value.int .i64) ?_, H.fr⟩
   unfold hexN; omega
  ·refine sq ?_
   refine rg ?_
   refine mv (v := .int .u8 _) rfl rfl ?_
   refine geq rfl rfl rfl ?_
   refine mv (v := .bool _) rfl rfl ?_
   refine spd (t := 16) rfl (fun hg2 => ?_) (fun hg2 => ?_)
   ·refine gy rfl ?_
    refine mv (v := .int .u8 _) rfl rfl ?_
    refine gy rfl ?_
    refine leq rfl rfl rfl ?_
    refine pkT (v := .bool _) rfl rfl rfl ?_
    refine asg (v := .bool _) rfl rfl ?_
    refine nl ?_
    refine then_n ?_
    refine cd rfl (fun hc2 => ?_) (fun hc2 => ?_)
    ·refine sq ?_
     refine rg ?_
     refine mv (v := .int .u8 _) rfl rfl ?_
     refine sub rfl rfl (by first | exact w_u8 (by omega) | exact w_u8 (rng_u8 _) | exact m_u8 _) rfl ?_
     refine cvi rfl rfl Tryz.underlying3 (by first | exact w_i64 (by omega) | exact w_i64 (rng_i64 _) | rfl) rfl ?_
     refine add rfl rfl (by first | exact w_i64 (by omega) | exact w_i64 (rng_i64 _) | rfl) rfl ?_
     refine asg (v := .int .i64 _) rfl rfl ?_
     refine nl ?_
     refine then_n ?_
     refine rt ?_
     refine in_r ?_
     refine then_r ?_
     refine fin_r ?_
     refine ⟨congrArg (Value.int .i64) ?_, H.fr⟩
     unfold hexN; omega
    ·refine sq ?_
     refine rg ?_
     refine mv (v := .int .u8 _) rfl rfl ?_
     refine geq rfl rfl rfl ?_
     refine mv (v := .bool _) rfl rfl ?_
     refine spd (t := 27) rfl (fun hg3 => ?_) (fun hg3 => ?_)
     ·refine gy rfl ?_
      refine mv (v := .int .u8 _) rfl rfl ?_
      refine gy rfl ?_
      refine leq rfl rfl rfl ?_
      refine pkT (v := .bool _) rfl rfl rfl ?_
      refine asg (v := .bool _) rfl rfl ?_
      refine nl ?_
      refine then_n ?_
      refine cd rfl (fun hc3 => ?_) (fun hc3 => ?_)
      ·refine sq ?_
       refine rg ?_
       refine mv (v := .int .u8 _) rfl rfl ?_
       refine sub rfl rfl (by first | exact w_u8 (by omega) | exact w_u8 (rng_u8 _) | exact m_u8 _) rfl ?_
       refine cvi rfl rfl Tryz.underlying3 (by first | exact w_i64 (by omega) | exact w_i64 (rng_i64 _) | rfl) rfl ?_
       refine add rfl rfl (by first | exact w_i64 (by omega) | exact w_i64 (rng_i64 _) | rfl) rfl ?_
       refine asg (v := .int .i64 _) rfl rfl ?_
       refine nl ?_
       refine then_n ?_
       refine rt ?_
       refine in_r ?_
       refine then_r ?_
       refine fin_r ?_
       refine ⟨congrArg (Value.int .i64) ?_, H.fr⟩
       unfold hexN; omega
      ·refine sk ?_
       refine in_n ?_
       refine then_n ?_
       refine sq ?_
       refine rg ?_
       refine asg (v := .int .i64 _) rfl rfl ?_
       refine nl ?_
       refine then_n ?_
       refine rt ?_
       refine fin_r ?_
       refine ⟨congrArg (Value.int .i64) ?_, H.fr⟩
       unfold hexN; omega
     ·refine gn rfl rfl ?_
      refine gn rfl rfl ?_
      refine pkF (v := .bool _) rfl rfl rfl ?_
      refine asg (v := .bool _) rfl rfl ?_
      refine nl ?_
      refine then_n ?_
      refine cbF rfl rfl ?_
      refine sk ?_
      refine in_n ?_
      refine then_n ?_
      refine sq ?_
      refine rg ?_
      refine asg (v := .int .i64 _) rfl rfl ?_
      refine nl ?_
      refine then_n ?_
      refine rt ?_
      refine fin_r ?_
      refine ⟨congrArg (Value.int .i64) ?_, H.fr⟩
      unfold hexN; omega
   ·refine gn rfl rfl ?_
    refine gn rfl rfl ?_
    refine pkF (v := .bool _) rfl rfl rfl ?_
    refine asg (v := .bool _) rfl rfl ?_
    refine nl ?_
    refine then_n ?_
    refine cbF rfl rfl ?_
    refine sq ?_
    refine rg ?_
    refine mv (v := .int .u8 _) rfl rfl ?_
    refine geq rfl rfl rfl ?_
    refine mv (v := .bool _) rfl rfl ?_
    refine spd (t := 27) rfl (fun hg4 => ?_) (fun hg4 => ?_)
    ·refine gy rfl ?_
     refine mv (v := .int .u8 _) rfl rfl ?_
     refine gy rfl ?_
     refine leq rfl rfl rfl ?_
     refine pkT (v := .bool _) rfl rfl rfl ?_
     refine asg (v := .bool _) rfl rfl ?_
     refine nl ?_
     refine then_n ?_
     refine cd rfl (fun hc4 => ?_) (fun hc4 => ?_)
     ·refine sq ?_
      refine rg ?_
      refine mv (v := .int .u8 _) rfl rfl ?_
      refine sub rfl rfl (by first | exact w_u8 (by omega) | exact w_u8 (rng_u8 _) | exact m_u8 _) rfl ?_
      refine cvi rfl rfl Tryz.underlying3 (by first | exact w_i64 (by omega) | exact w_i64 (rng_i64 _) | rfl) rfl ?_
      refine add rfl rfl (by first | exact w_i64 (by omega) | exact w_i64 (rng_i64 _) | rfl) rfl ?_
      refine asg (v := .int .i64 _) rfl rfl ?_
      refine nl ?_
      refine then_n ?_
      refine rt ?_
      refine in_r ?_
      refine then_r ?_
      refine fin_r ?_
      refine ⟨congrArg (Value.int .i64) ?_, H.fr⟩
      unfold hexN; omega
     ·refine sk ?_
      refine in_n ?_
      refine then_n ?_
      refine sq ?_
      refine rg ?_
      refine asg (v := .int .i64 _) rfl rfl ?_
      refine nl ?_
      refine then_n ?_
      refine rt ?_
      refine fin_r ?_
      refine ⟨congrArg (Value.int .i64) ?_, H.fr⟩
      unfold hexN; omega
    ·refine gn rfl rfl ?_
     refine gn rfl rfl ?_
     refine pkF (v := .bool _) rfl rfl rfl ?_
     refine asg (v := .bool _) rfl rfl ?_
     refine nl ?_
     refine then_n ?_
     refine cbF rfl rfl ?_
     refine sk ?_
     refine in_n ?_
     refine then_n ?_
     refine sq ?_
     refine rg ?_
     refine asg (v := .int .i64 _) rfl rfl ?_
     refine nl ?_
     refine then_n ?_
     refine rt ?_
     refine fin_r ?_
     refine ⟨congrArg (Value.int .i64) ?_, H.fr⟩
     unfold hexN; omega
 ·refine gn rfl rfl ?_
  refine gn rfl rfl ?_
  refine pkF (v := .bool _) rfl rfl rfl ?_
  refine asg (v := .bool _) rfl rfl ?_
  refine nl ?_
  refine then_n ?_
  refine cbF rfl rfl ?_
  refine sq ?_
  refine rg ?_
  refine mv (v := .int .u8 _) rfl rfl ?_
  refine geq rfl rfl rfl ?_
  refine mv (v := .bool _) rfl rfl ?_
  refine spd (t := 16) rfl (fun hg5 => ?_) (fun hg5 => ?_)
  ·refine gy rfl ?_
   refine mv (v := .int .u8 _) rfl rfl ?_
   refine gy rfl ?_
   refine leq rfl rfl rfl ?_
   refine pkT (v := .bool _) rfl rfl rfl ?_
   refine asg (v := .bool _) rfl rfl ?_
   refine nl ?_
   refine then_n ?_
   refine cd rfl (fun hc5 => ?_) (fun hc5 => ?_)
   ·refine sq ?_
    refine rg ?_
    refine mv (v := .int .u8 _) rfl rfl ?_
    refine sub rfl rfl (by first | exact w_u8 (by omega) | exact w_u8 (rng_u8 _) | exact m_u8 _) rfl ?_
    refine cvi rfl rfl Tryz.underlying3 (by first | exact w_i64 (by omega) | exact w_i64 (rng_i64 _) | rfl) rfl ?_
    refine add rfl rfl (by first | exact w_i64 (by omega) | exact w_i64 (rng_i64 _) | rfl) rfl ?_
    refine asg (v := .int .i64 _) rfl rfl ?_
    refine nl ?_
    refine then_n ?_
    refine rt ?_
    refine in_r ?_
    refine then_r ?_
    refine fin_r ?_
    refine ⟨congrArg (Value.int .i64) ?_, H.fr⟩
    unfold hexN; omega
   ·refine sq ?_
    refine rg ?_
    refine mv (v := .int .u8 _) rfl rfl ?_
    refine geq rfl rfl rfl ?_
    refine mv (v := .bool _) rfl rfl ?_
    refine spd (t := 27) rfl (fun hg6 => ?_) (fun hg6 => ?_)
    ·refine gy rfl ?_
     refine mv (v := .int .u8 _) rfl rfl ?_
     refine gy rfl ?_
     refine leq rfl rfl rfl ?_
     refine pkT (v := .bool _) rfl rfl rfl ?_
     refine asg (v := .bool _) rfl rfl ?_
     refine nl ?_
     refine then_n ?_
     refine cd rfl (fun hc6 => ?_) (fun hc6 => ?_)
     ·refine sq ?_
      refine rg ?_
      refine mv (v := .int .u8 _) rfl rfl ?_
      refine sub rfl rfl (by first | exact w_u8 (by omega) | exact w_u8 (rng_u8 _) | exact m_u8 _) rfl ?_
      refine cvi rfl rfl Tryz.underlying3 (by first | exact w_i64 (by omega) | exact w_i64 (rng_i64 _) | rfl) rfl ?_
      refine add rfl rfl (by first | exact w_i64 (by omega) | exact w_i64 (rng_i64 _) | rfl) rfl ?_
      refine asg (v := .int .i64 _) rfl rfl ?_
      refine nl ?_
      refine then_n ?_
      refine rt ?_
      refine in_r ?_
      refine then_r ?_
      refine fin_r ?_
      refine ⟨congrArg (Value.int .i64) ?_, H.fr⟩
      unfold hexN; omega
     ·refine sk ?_
      refine in_n ?_
      refine then_n ?_
      refine sq ?_
      refine rg ?_
      refine asg (v := .int .i64 _) rfl rfl ?_
      refine nl ?_
      refine then_n ?_
      refine rt ?_
      refine fin_r ?_
      refine ⟨congrArg (Value.int .i64) ?_, H.fr⟩
      unfold hexN; omega
    ·refine gn rfl rfl ?_
     refine gn rfl rfl ?_
     refine pkF (v := .bool _) rfl rfl rfl ?_
     refine asg (v := .bool _) rfl rfl ?_
     refine nl ?_
     refine then_n ?_
     refine cbF rfl rfl ?_
     refine sk ?_
     refine in_n ?_
     refine then_n ?_
     refine sq ?_
     refine rg ?_
     refine asg (v := .int .i64 _) rfl rfl ?_
     refine nl ?_
     refine then_n ?_
     refine rt ?_
     refine fin_r ?_
     refine ⟨congrArg (Value.int .i64) ?_, H.fr⟩
     unfold hexN; omega
  ·refine gn rfl rfl ?_
   refine gn rfl rfl ?_
   refine pkF (v := .bool _) rfl rfl rfl ?_
   refine asg (v := .bool _) rfl rfl ?_
   refine nl ?_
   refine then_n ?_
   refine cbF rfl rfl ?_
   refine sq ?_
   refine rg ?_
   refine mv (v := .int .u8 _) rfl rfl ?_
   refine geq rfl rfl rfl ?_
   refine mv (v := .bool _) rfl rfl ?_
   refine spd (t := 27) rfl (fun hg7 => ?_) (fun hg7 => ?_)
   ·refine gy rfl ?_
    refine mv (v := .int .u8 _) rfl rfl ?_
    refine gy rfl ?_
    refine leq rfl rfl rfl ?_
    refine pkT (v := .bool _) rfl rfl rfl ?_
    refine asg (v := .bool _) rfl rfl ?_
    refine nl ?_
    refine then_n ?_
    refine cd rfl (fun hc7 => ?_) (fun hc7 => ?_)
    ·refine sq ?_
     refine rg ?_
     refine mv (v := .int .u8 _) rfl rfl ?_
     refine sub rfl rfl (by first | exact w_u8 (by omega) | exact w_u8 (rng_u8 _) | exact m_u8 _) rfl ?_
     refine cvi rfl rfl Tryz.underlying3 (by first | exact w_i64 (by omega) | exact w_i64 (rng_i64 _) | rfl) rfl ?_
     refine add rfl rfl (by first | exact w_i64 (by omega) | exact w_i64 (rng_i64 _) | rfl) rfl ?_
     refine asg (v := .int .i64 _) rfl rfl ?_
     refine nl ?_
     refine then_n ?_
     refine rt ?_
     refine in_r ?_
     refine then_r ?_
     refine fin_r ?_
     refine ⟨congrArg (Value.int .i64) ?_, H.fr⟩
     unfold hexN; omega
    ·refine sk ?_
     refine in_n ?_
     refine then_n ?_
     refine sq ?_
     refine rg ?_
     refine asg (v := .int .i64 _) rfl rfl ?_
     refine nl ?_
     refine then_n ?_
     refine rt ?_
     refine fin_r ?_
     refine ⟨congrArg (Value.int .i64) ?_, H.fr⟩
     unfold hexN; omega
   ·refine gn rfl rfl ?_
    refine gn rfl rfl ?_
    refine pkF (v := .bool _) rfl rfl rfl ?_
    refine asg (v := .bool _) rfl rfl ?_
    refine nl ?_
    refine then_n ?_
    refine cbF rfl rfl ?_
    refine sk ?_
    refine in_n ?_
    refine then_n ?_
    refine sq ?_
    refine rg ?_
    refine asg (v := .int .i64 _) rfl rfl ?_
    refine nl ?_
    refine then_n ?_
    refine rt ?_
    refine fin_r ?_
    refine ⟨congrArg (Value.int .i64) ?_, H.fr⟩
    unfold hexN; omega

set_option maxRecDepth 100000 in
set_option maxHeartbeats 1000000 in
theorem c_guidOrder (w : World)  : Calls Tryz.prog 40 #[] w (Ret fun v w' => v = .agg (ordL.map fun (k : Nat) => Value.int .i64 (k : Int)).toArray ∧ Fr [] w w') := by
 refine enterR [.cell 0 87] Tryz.func40 rfl rfl rfl rfl ?_
 have H := SH.nil w
 refine sq ?_
 refine rg ?_
 refine al H ze87 rfl ?_
 clear H; intro b1 w1 hb1 H _
 refine nl ?_
 refine then_n ?_
 refine sq ?_
 refine rg ?_
 refine bu (out := ?o1) ze87 bo87 ?f1 rfl ?_
 case f1 =>
  refine FL.one (v := .int .i64 _) rfl pl87_0 rfl (by first | decide | simp) ?_
  refine FL.one (v := .int .i64 _) rfl pl87_1 rfl (by first | decide | simp) ?_
  refine FL.one (v := .int .i64 _) rfl pl87_2 rfl (by first | decide | simp) ?_
  refine FL.one (v := .int .i64 _) rfl pl87_3 rfl (by first | decide | simp) ?_
  refine FL.one (v := .int .i64 _) rfl pl87_4 rfl (by first | decide | simp) ?_
  refine FL.one (v := .int .i64 _) rfl pl87_5 rfl (by first | decide | simp) ?_
  refine FL.one (v := .int .i64 _) rfl pl87_6 rfl (by first | decide | simp) ?_
  refine FL.one (v := .int .i64 _) rfl pl87_7 rfl (by first | decide | simp) ?_
  refine FL.one (v := .int .i64 _) rfl pl87_8 rfl (by first | decide | simp) ?_
  refine FL.one (v := .int .i64 _) rfl pl87_9 rfl (by first | decide | simp) ?_
  refine FL.one (v := .int .i64 _) rfl pl87_10 rfl (by first | decide | simp) ?_
  refine FL.one (v := .int .i64 _) rfl pl87_11 rfl (by first | decide | simp) ?_
  refine FL.one (v := .int .i64 _) rfl pl87_12 rfl (by first | decide | simp) ?_
  refine FL.one (v := .int .i64 _) rfl pl87_13 rfl (by first | decide | simp) ?_
  refine FL.one (v := .int .i64 _) rfl pl87_14 rfl (by first | decide | simp) ?_
  refine FL.one (v := .int .i64 _) rfl pl87_15 rfl (by first | decide | simp) ?_
  exact FL.nil
 refine sa H rfl rfl ag87_16 rfl rfl (by decide) (by omega) rfl ?_
 clear H; intro w2 H _
 refine nl ?_
 refine then_n ?_
 refine rt ?_
 refine finR_r ?_
 exact ⟨[_], ⟨finC rfl (H.look (b := b1)) ag87_16, trivial⟩, rfl, H.fr⟩

end Go.Proofs.YthcaejaaalkglaaGreatDoor.X
/- Walks of functions, printed by a program of this claim. -/
namespace Go.Proofs.YthcaejaaalkglaaGreatDoor.X
set_option linter.unusedVariables false
set_option linter.unusedSimpArgs false
open Go Go.RowKit

namespace PF
theorem ag50_16 : aggB Tryz.prog 50 16 = true := by kernel_rfl
theorem bo50 : buildOK Tryz.prog 50 = true := by kernel_rfl
theorem ca22 : callable Tryz.prog 22 = true := by kernel_rfl
theorem ca40 : callable Tryz.prog 40 = true := by kernel_rfl
theorem ca41 : callable Tryz.prog 41 = true := by kernel_rfl
theorem eg50 : Tryz.prog.eqGuardType Tryz.prog.depth 50 = false := by kernel_rfl
theorem ri5 : rowInfo Tryz.prog 5 = some ([.int .u8 0], 1) := by kernel_rfl
theorem sc3 : scalarB Tryz.prog 3 = true := by kernel_rfl
theorem sz3_1 : sizeB Tryz.prog 3 1 = true := by kernel_rfl
theorem ze5 : zeroL Tryz.prog 5 = some [.int .u8 0] := by kernel_rfl
theorem ze50 : zeroL Tryz.prog 50 = some [.int .u8 0, .int .u8 0, .int .u8 0, .int .u8 0, .int .u8 0, .int .u8 0, .int .u8 0, .int .u8 0, .int .u8 0, .int .u8 0, .int .u8 0, .int .u8 0, .int .u8 0, .int .u8 0, .int .u8 0, .int .u8 0] := by kernel_rfl
end PF
open PF

set_option maxRecDepth 100000 in
set_option maxHeartbeats 1000000 in
theorem c_guidBytes (w : World) (s : List UInt8) : Calls Tryz.prog 22 #[.string (str s)] w (Ret fun v w' => v = .tuple #[.agg (Bs (gB s)).toArray, .bool (gOk s)] ∧ Fr [] w w') := by
 refine enterR [.cell 2 50, .tmp 3] Tryz.func22 rfl rfl rfl rfl ?_
 have H := SH.nil w
 have hsz := size_str s
 refine sq ?_
 refine rg ?_
 refine al H ze50 rfl ?_
 clear H; intro b1 w1 hb1 H _
 refine asg (v := .bool _) rfl rfl ?_
 refine nl ?_
 refine then_n ?_
 refine sq ?_
 refine sq ?_
 refine rg ?_
 refine mv (v := .string _) rfl rfl ?_
 refine lnT rfl Tryz.underlying9 rfl ?_
 refine neq rfl rfl rfl ?_
 refine nl ?_
 refine then_n ?_
 refine cd rfl (fun hc1 => ?_) (fun hc1 => ?_)
 ·refine sq ?_
  refine rg ?_
  refine la (vs := Bs (List.replicate 16 0)) H rfl ag50_16 rfl rfl rfl ?_
  refine sa (cs' := Bs (List.replicate 16 0)) H rfl rfl ag50_16 rfl rfl (by decide) (by omega) rfl ?_
  clear H; intro w91 H _
  refine asg (v := .bool _) rfl rfl ?_
  refine nl ?_
  refine then_n ?_
  refine rt ?_
  refine then_r ?_
  refine finR_r ?_
  rw [gOk_len (by omega), gB_not (gOk_len (by omega))]
  exact ⟨[_, _], ⟨finC rfl (H.look (b := b1)) ag50_16, rfl, trivial⟩, rfl, H.fr⟩
 ·have hsl : s.length = 36 := by omega
  refine sk ?_
  refine then_n ?_
  refine sq ?_
  refine rg ?_
  refine cl ca40 (c_guidOrder _) rfl ?_
  rintro _ w2 ⟨rfl, F⟩
  replace H := H.keep F; clear F
  refine al H ze87 rfl ?_
  clear H; intro b2 w3 hb2 H _
  refine sa (cs' := (ordL.map fun (k : Nat) => Value.int .i64 (k : Int))) H rfl rfl ag87_16 rfl rfl (by decide) (by omega) rfl ?_
  clear H; intro w92 H _
  refine nl ?_
  refine then_n ?_
  refine sq ?_
  refine rg ?_
  refine asg (v := .int .i64 _) rfl rfl ?_
  refine nl ?_
  refine then_n ?_
  refine sq ?_
  refine sq ?_
  refine rg ?_
  refine asg (v := .int .i64 _) rfl rfl ?_
  refine nl ?_
  refine then_n ?_
  refine bk ?_
  refine lpM (α := Nat) [3, 5, 6, 7, 13, 14, 15, 16, 17, 18, 19, 20, 21, 22, 23, 24, 25, 26, 27, 28, 29, 30, 31, 32, 33, 34, 35, 36, 37, 38, 39, 40, 41, 42, 43, 44, 45, 46, 47, 48, 49, 50, 51, 52, 53, 54, 55, 56, 57, 58, 59] (fun i => [(5, .int .i64 (cntH i : Int)), (6, .int .i64 (i : Int))]) (fun i w' => i ≤ 36 ∧ (∀ j, j < i → okAt s j = true) ∧ SH w [] w' [⟨b2, .cells (ordL.map fun (k : Nat) => Value.int .i64 (k : Int)).toArray 87 (0, 0), true⟩, ⟨b1, .cells (Bs (gPart s (i))).toArray 50 (0, 0), true⟩]) (fun i => 36 - i) 0 ?_ (fC (by first | rfl | exact congrArg (Value.int _) (by first | omega | assumption | (symm; assumption) | (simp; done) | (simp; omega)) | exact congrArg (fun n => Value.slice _ n _) (by first | omega | (simp; done) | (simp; omega))) (fC (by first | rfl | exact congrArg (Value.int _) (by first | omega | assumption | (symm; assumption) | (simp; done) | (simp; omega)) | exact congrArg (fun n => Value.slice _ n _) (by first | omega | (simp; done) | (simp; omega))) (fN _))) ?_
  ·exact ⟨by omega, fun j hj => by omega, H⟩
  ·rintro i ρx w4 ⟨hi, hok, H⟩
   have hgl := gPart_len s i
   refine sq ?_
   refine sq ?_
   refine rg ?_
   refine mv (v := .int .i64 _) rfl rfl ?_
   refine lss rfl rfl rfl ?_
   refine nl ?_
   refine then_n ?_
   refine cd rfl (fun hc2 => ?_) (fun hc2 => ?_)
   ·refine sk ?_
    refine then_n ?_
    refine sq ?_
    refine bk ?_
    refine sq ?_
    refine ctM (α := Bool) [17, 18, 19, 20, 21, 22, 23, 24, 25, 26, 27, 28, 29, 30] (fun u => [(30, .bool u)]) (fun u w' => u = dashB i ∧ SH w [] w' [⟨b2, .cells (ordL.map fun (k : Nat) => Value.int .i64 (k : Int)).toArray 87 (0, 0), true⟩, ⟨b1, .cells (Bs (gPart s (i))).toArray 50 (0, 0), true⟩]) ?_ ?_
    ·refine rg ?_
     refine mv (v := .int .i64 _) rfl rfl ?_
     refine eql rfl rfl rfl ?_
     refine mv (v := .bool _) rfl rfl ?_
     refine spd (t := 19) rfl (fun hg1 => ?_) (fun hg1 => ?_)
     ·refine gn rfl rfl ?_
      refine gn rfl rfl ?_
      refine pkT (v := .bool _) rfl rfl rfl ?_
      refine mv (v := .bool _) rfl rfl ?_
      refine gn rfl rfl ?_
      refine gn rfl rfl ?_
      refine pkT (v := .bool _) rfl rfl rfl ?_
      refine mv (v := .bool _) rfl rfl ?_
      refine gn rfl rfl ?_
      refine gn rfl rfl ?_
      refine pkT (v := .bool _) rfl rfl rfl ?_
      refine nl ?_
      refine then_n ?_
      exact ⟨true, ⟨dash_t (by omega), H⟩, (fC (by first | rfl | exact congrArg (Value.int _) (by first | omega | assumption | (symm; assumption) | (simp; done) | (simp; omega)) | exact congrArg (fun n => Value.slice _ n _) (by first | omega | (simp; done) | (simp; omega))) (fN _)), (by repeat (first | exact Agree.setL rfl Agree.mask | exact Agree.self _ _ | refine Agree.upd rfl ?_ | refine Agree.setL rfl ?_ | refine Agree.mask2 rfl ?_))⟩
     ·refine gy rfl ?_
      refine mv (v := .int .i64 _) rfl rfl ?_
      refine gy rfl ?_
      refine eql rfl rfl rfl ?_
      refine pkF (v := .bool _) rfl rfl rfl ?_
      refine mv (v := .bool _) rfl rfl ?_
      refine spd (t := 23) rfl (fun hg2 => ?_) (fun hg2 => ?_)
      ·refine gn rfl rfl ?_
       refine gn rfl rfl ?_
       refine pkT (v := .bool _) rfl rfl rfl ?_
       refine mv (v := .bool _) rfl rfl ?_
       refine gn rfl rfl ?_
       refine gn rfl rfl ?_
       refine pkT (v := .bool _) rfl rfl rfl ?_
       refine nl ?_
       refine then_n ?_
       exact ⟨true, ⟨dash_t (by omega), H⟩, (fC (by first | rfl | exact congrArg (Value.int _) (by first | omega | assumption | (symm; assumption) | (simp; done) | (simp; omega)) | exact congrArg (fun n => Value.slice _ n _) (by first | omega | (simp; done) | (simp; omega))) (fN _)), (by repeat (first | exact Agree.setL rfl Agree.mask | exact Agree.self _ _ | refine Agree.upd rfl ?_ | refine Agree.setL rfl ?_ | refine Agree.mask2 rfl ?_))⟩
      ·refine gy rfl ?_
       refine mv (v := .int .i64 _) rfl rfl ?_
       refine gy rfl ?_
       refine eql rfl rfl rfl ?_
       refine pkF (v := .bool _) rfl rfl rfl ?_
       refine mv (v := .bool _) rfl rfl ?_
       refine spd (t := 27) rfl (fun hg3 => ?_) (fun hg3 => ?_)
       ·refine gn rfl rfl ?_
        refine gn rfl rfl ?_
        refine pkT (v := .bool _) rfl rfl rfl ?_
        refine nl ?_
        refine then_n ?_
        exact ⟨true, ⟨dash_t (by omega), H⟩, (fC (by first | rfl | exact congrArg (Value.int _) (by first | omega | assumption | (symm; assumption) | (simp; done) | (simp; omega)) | exact congrArg (fun n => Value.slice _ n _) (by first | omega | (simp; done) | (simp; omega))) (fN _)), (by repeat (first | exact Agree.setL rfl Agree.mask | exact Agree.self _ _ | refine Agree.upd rfl ?_ | refine Agree.setL rfl ?_ | refine Agree.mask2 rfl ?_))⟩
       ·refine gy rfl ?_
        refine mv (v := .int .i64 _) rfl rfl ?_
        refine gy rfl ?_
        refine eql rfl rfl rfl ?_
        refine pkF (v := .bool _) rfl rfl rfl ?_
        refine nl ?_
        refine then_n ?_
        exact ⟨_, ⟨dash_d hg1 hg2 hg3, H⟩, (fC (by first | rfl | exact congrArg (Value.int _) (by first | omega | assumption | (symm; assumption) | (simp; done) | (simp; omega)) | exact congrArg (fun n => Value.slice _ n _) (by first | omega | (simp; done) | (simp; omega))) (fN _)), (by repeat (first | exact Agree.setL rfl Agree.mask | exact Agree.self _ _ | refine Agree.upd rfl ?_ | refine Agree.setL rfl ?_ | refine Agree.mask2 rfl ?_))⟩
    ·rintro u ρx w5 ⟨hu, H⟩
     refine cn rfl (fun hc3 => ?_) (fun hc3 => ?_)
     ·have hd : dashB i = true := hu.symm.trans hc3
      have hcd := cntH_dash hd
      refine sq ?_
      refine sq ?_
      refine rg ?_
      refine mv (v := .string _) rfl rfl ?_
      refine mv (v := .int .i64 _) rfl rfl ?_
      refine ixS rfl rfl Tryz.underlying9 (by first | omega | (constructor <;> simp <;> omega)) rfl ?_; intro hu1
      refine neq rfl rfl rfl ?_
      refine nl ?_
      refine then_n ?_
      refine cd rfl (fun hc4 => ?_) (fun hc4 => ?_)
      ·have hgk := gOk_not (by omega) (okAt_dash_f hd hc4)
       refine sq ?_
       refine rg ?_
       refine bu (out := ?o2) ze50 bo50 ?f2 rfl ?_
       case f2 =>
        exact FL.nil
       refine sa (cs' := Bs (List.replicate 16 0)) H rfl rfl ag50_16 rfl rfl (by show 0 + 16 ≤ 16; decide) (by omega) rfl ?_
       clear H; intro w95 H _
       refine asg (v := .bool _) rfl rfl ?_
       refine nl ?_
       refine then_n ?_
       refine rt ?_
       refine then_r ?_
       refine then_r ?_
       refine in_r ?_
       refine then_r ?_
       refine loop_r ?_
       refine in_r ?_
       refine then_r ?_
       refine finR_r ?_
       rw [hgk, gB_not hgk]
       exact ⟨[_, _], ⟨finC rfl (H.look (b := b1)) ag50_16, rfl, trivial⟩, rfl, H.fr⟩
      ·have hoi := okAt_dash hd (by simpa using hc4)
       refine sk ?_
       refine then_n ?_
       refine ex ?_
       refine then_e ?_
       refine in_hit rfl ?_
       refine then_n ?_
       refine rg ?_
       refine mv (v := .int .i64 _) rfl rfl ?_
       refine add rfl rfl (by first | exact w_i64 (by omega) | exact w_i64 (rng_i64 _) | rfl) rfl ?_
       refine asg (v := .int .i64 _) rfl rfl ?_
       refine nl ?_
       refine loop_n ?_
       exact ⟨i + 1, (by (try dsimp only); omega), ⟨by omega, okAt_next hok hoi, by rw [gPart_dash hd]; exact H⟩, (fC (by first | rfl | exact congrArg (Value.int _) (by first | omega | assumption | (symm; assumption) | (simp; done) | (simp; omega)) | exact congrArg (fun n => Value.slice _ n _) (by first | omega | (simp; done) | (simp; omega))) (fC (by first | rfl | exact congrArg (Value.int _) (by first | omega | assumption | (symm; assumption) | (simp; done) | (simp; omega)) | exact congrArg (fun n => Value.slice _ n _) (by first | omega | (simp; done) | (simp; omega))) (fN _))), (by repeat (first | exact Agree.setL rfl Agree.mask | exact Agree.self _ _ | refine Agree.upd rfl ?_ | refine Agree.setL rfl ?_ | refine Agree.mask2 rfl ?_))⟩
     ·have hd : dashB i = false := hu.symm.trans hc3
      have hol := ord_lt i (by omega) hd
      have hcn := cntH_hex i (by omega) hd
      refine sk ?_
      refine then_n ?_
      refine sq ?_
      refine rg ?_
      refine mv (v := .string _) rfl rfl ?_
      refine mv (v := .int .i64 _) rfl rfl ?_
      refine ixS rfl rfl Tryz.underlying9 (by first | omega | (constructor <;> simp <;> omega)) rfl ?_; intro hu3
      refine cl ca41 (c_hexOf _ _ (by omega)) rfl ?_
      rintro _ w6 ⟨rfl, F⟩
      replace H := H.keep F; clear F
      refine asgN (v' := .int .i64 (nib s i)) rfl rfl rfl ?_
      refine nl ?_
      refine then_n ?_
      refine sq ?_
      refine sq ?_
      refine rg ?_
      refine mv (v := .int .i64 _) rfl rfl ?_
      refine lss rfl rfl rfl ?_
      refine nl ?_
      refine then_n ?_
      refine cd rfl (fun hc5 => ?_) (fun hc5 => ?_)
      ·have hgk := gOk_not (by omega) (okAt_hex_f hd hc5)
       refine sq ?_
       refine rg ?_
       refine bu (out := ?o4) ze50 bo50 ?f4 rfl ?_
       case f4 =>
        exact FL.nil
       refine sa (cs' := Bs (List.replicate 16 0)) H rfl rfl ag50_16 rfl rfl (by show 0 + 16 ≤ 16; decide) (by omega) rfl ?_
       clear H; intro w95 H _
       refine asg (v := .bool _) rfl rfl ?_
       refine nl ?_
       refine then_n ?_
       refine rt ?_
       refine then_r ?_
       refine in_r ?_
       refine then_r ?_
       refine loop_r ?_
       refine in_r ?_
       refine then_r ?_
       refine finR_r ?_
       rw [hgk, gB_not hgk]
       exact ⟨[_, _], ⟨finC rfl (H.look (b := b1)) ag50_16, rfl, trivial⟩, rfl, H.fr⟩
      ·have hoi := okAt_hex hd hc5
       have hnr : 0 ≤ nib s i ∧ nib s i ≤ 15 := ⟨by omega, (hexN_rng _).2⟩
       refine sk ?_
       refine then_n ?_
       refine sq ?_
       refine dr (by kernel_rfl) ?_
       have H := H.drew
       refine hold (fun _ => True) [] ?_
       refine tk (i := 0) rfl (by kernel_rfl) rfl trivial (fun _ _ => r_mv (v := .int .i64 _) rfl) ?_
       refine tk (i := 1) rfl (by kernel_rfl) rfl trivial (fun _ _ => r_quo rfl rfl (by omega) (by omega) (by first | exact w_i64 (by omega) | exact w_i64 (rng_i64 _) | rfl)) ?_
       refine tk (i := 2) rfl (by kernel_rfl) rfl trivial (fun _ _ => r_iyN (cntH i / 2) rfl rfl Tryz.underlying87 sz3_1 (by omega) (by omega)) ?_
       refine tk (i := 4) rfl (by kernel_rfl) rfl trivial (fun _ _ => r_mv (v := .int .i64 _) rfl) ?_
       refine tk (i := 5) rfl (by kernel_rfl) rfl trivial (fun _ _ => r_quo rfl rfl (by omega) (by omega) (by first | exact w_i64 (by omega) | exact w_i64 (rng_i64 _) | rfl)) ?_
       refine tk (i := 6) rfl (by kernel_rfl) rfl trivial (fun _ _ => r_iyN (cntH i / 2) rfl rfl Tryz.underlying87 sz3_1 (by omega) (by omega)) ?_
       refine tk (i := 11) rfl (by kernel_rfl) rfl trivial (fun _ _ => r_mv (v := .int .i64 _) rfl) ?_
       refine tk (i := 12) rfl (by kernel_rfl) rfl trivial (fun _ _ => r_cvi rfl rfl Tryz.underlying5 (by first | exact w_u8 (by omega) | exact w_u8 (rng_u8 _) | exact m_u8 _)) ?_
       refine unfree ?_
       refine holdH H [15] ?_
       refine tk (i := 3) rfl (by kernel_rfl) rfl H (fun w' H => r_ld (v := .int .i64 ((ordL.getD (cntH i / 2) 0 : Nat) : Int)) H rfl sc3 (ord_get (by omega))) ?_
       refine tk (i := 7) rfl (by kernel_rfl) rfl H (fun w' H => r_ld (v := .int .i64 ((ordL.getD (cntH i / 2) 0 : Nat) : Int)) H rfl sc3 (ord_get (by omega))) ?_
       refine tk (i := 8) rfl (by kernel_rfl) rfl H (fun w' H => r_iyN (ordL.getD (cntH i / 2) 0) rfl rfl Tryz.underlying50 sz5_1 (by omega) (by omega)) ?_
       refine tk (i := 9) rfl (by kernel_rfl) rfl H (fun w' H => r_ldb H rfl sc5 (by omega)) ?_
       refine tk (i := 10) rfl (by kernel_rfl) rfl H (fun w' H => r_shlK (s := 4) (p := 16) rfl rfl (by decide) (by decide) (by first | exact w_u8 (by omega) | exact w_u8 (rng_u8 _) | exact m_u8 _)) ?_
       refine tk (i := 13) rfl (by kernel_rfl) rfl H (fun w' H => r_bor (c := (((gPart s i).getD (ordL.getD (cntH i / 2) 0) 0).toNat : Int) * 16 % 256 + nib s i) rfl rfl (or_nib ⟨by omega, u8_lt _⟩ hnr)) ?_
       refine tk (i := 14) rfl (by kernel_rfl) rfl H (fun w' H => r_iyN (ordL.getD (cntH i / 2) 0) rfl rfl Tryz.underlying50 sz5_1 (by omega) (by omega)) ?_
       refine fb (i := 15) (by kernel_rfl) rfl rfl rfl ?_
       refine stb H rfl rfl sc5 (by have := u8_lt ((gPart s i).getD (ordL.getD (cntH i / 2) 0) 0); omega) (by rw [gPart_len]; exact hol) (by omega) ?_
       clear H; intro w93 H _
       refine nl ?_
       refine then_n ?_
       refine dn (by kernel_rfl) ?_
       refine then_n ?_
       refine rg ?_
       refine mv (v := .int .i64 _) rfl rfl ?_
       refine add rfl rfl (by first | exact w_i64 (by omega) | exact w_i64 (rng_i64 _) | rfl) rfl ?_
       refine asg (v := .int .i64 _) rfl rfl ?_
       refine nl ?_
       refine in_n ?_
       refine then_n ?_
       refine rg ?_
       refine mv (v := .int .i64 _) rfl rfl ?_
       refine add rfl rfl (by first | exact w_i64 (by omega) | exact w_i64 (rng_i64 _) | rfl) rfl ?_
       refine asg (v := .int .i64 _) rfl rfl ?_
       refine nl ?_
       refine loop_n ?_
       exact ⟨i + 1, (by (try dsimp only); omega), ⟨by omega, okAt_next hok hoi, sh_cells1 H (congrArg Bs (gPart_step (by omega) hd (okAt_next hok hoi)))⟩, (fC (by first | rfl | exact congrArg (Value.int _) (by first | omega | assumption | (symm; assumption) | (simp; done) | (simp; omega)) | exact congrArg (fun n => Value.slice _ n _) (by first | omega | (simp; done) | (simp; omega))) (fC (by first | rfl | exact congrArg (Value.int _) (by first | omega | assumption | (symm; assumption) | (simp; done) | (simp; omega)) | exact congrArg (fun n => Value.slice _ n _) (by first | omega | (simp; done) | (simp; omega))) (fN _))), (by repeat (first | exact Agree.setL rfl Agree.mask | exact Agree.self _ _ | refine Agree.upd rfl ?_ | refine Agree.setL rfl ?_ | refine Agree.mask2 rfl ?_))⟩
   ·refine ex ?_
    refine then_e ?_
    refine loop_e ?_
    refine in_hit rfl ?_
    refine then_n ?_
    refine sq ?_
    refine rg ?_
    refine la (vs := Bs (gPart s i)) H rfl ag50_16 rfl rfl rfl ?_
    refine sa (cs' := Bs (gPart s i)) H rfl rfl ag50_16 rfl rfl (by show 0 + 16 ≤ 16; decide) (by omega) rfl ?_
    clear H; intro w94 H _
    refine asg (v := .bool _) rfl rfl ?_
    refine nl ?_
    refine then_n ?_
    refine rt ?_
    refine finR_r ?_
    obtain rfl : i = 36 := by omega
    have hgk := gOk_of hsl hok
    rw [hgk, gB_ok hgk]
    exact ⟨[_, _], ⟨finC rfl (H.look (b := b1)) ag50_16, rfl, trivial⟩, rfl, H.fr⟩

set_option maxRecDepth 100000 in
set_option maxHeartbeats 1000000 in
theorem c_sameGuid (w : World) (a b : List UInt8) : Calls Tryz.prog 23 #[.string (str a), .string (str b)] w (Ret fun v w' => v = .bool (sameG a b) ∧ Fr [] w w') := by
 refine enter (fun ρ => ρ 4) Tryz.func23 rfl rfl rfl (res1 rfl) ?_
 have H := SH.nil w
 refine sq ?_
 refine rg ?_
 refine asg (v := .bool _) rfl rfl ?_
 refine nl ?_
 refine then_n ?_
 refine sq ?_
 refine rg ?_
 refine mv (v := .string _) rfl rfl ?_
 refine cl ca22 (c_guidBytes _ _) rfl ?_
 rintro _ w1 ⟨rfl, F⟩
 replace H := H.keep F; clear F
 refine mv (v := .tuple _) rfl rfl ?_
 refine xt rfl rfl rfl ?_
 refine xt rfl rfl rfl ?_
 refine al H ze50 rfl ?_
 clear H; intro b1 w2 hb1 H _
 refine sa (cs' := Bs (gB a)) H rfl rfl ag50_16 (by rw [Bs_length, gB_len]) (List.all_eq_true.2 Bs_one) (by decide) (by omega) (List.append_nil _) ?_
 clear H; intro w91 H _
 refine asg (v := .bool _) rfl rfl ?_
 refine nl ?_
 refine then_n ?_
 refine sq ?_
 refine rg ?_
 refine mv (v := .string _) rfl rfl ?_
 refine cl ca22 (c_guidBytes _ _) rfl ?_
 rintro _ w3 ⟨rfl, F⟩
 replace H := H.keep F; clear F
 refine mv (v := .tuple _) rfl rfl ?_
 refine xt rfl rfl rfl ?_
 refine xt rfl rfl rfl ?_
 refine al H ze50 rfl ?_
 clear H; intro b2 w4 hb2 H _
 refine sa (cs' := Bs (gB b)) H rfl rfl ag50_16 (by rw [Bs_length, gB_len]) (List.all_eq_true.2 Bs_one) (by decide) (by omega) (List.append_nil _) ?_
 clear H; intro w92 H _
 refine asg (v := .bool _) rfl rfl ?_
 refine nl ?_
 refine then_n ?_
 refine sq ?_
 refine rg ?_
 refine mv (v := .bool _) rfl rfl ?_
 refine mv (v := .bool _) rfl rfl ?_
 refine sp (t := 20) rfl (fun hg1 => ?_) (fun hg1 => ?_)
 ·refine gy rfl ?_
  refine mv (v := .bool _) rfl rfl ?_
  refine pkT (v := .bool _) rfl rfl rfl ?_
  refine mv (v := .bool _) rfl rfl ?_
  refine sp (t := 23) rfl (fun hg2 => ?_) (fun hg2 => ?_)
  ·refine gy rfl ?_
   refine la (vs := Bs (gB a)) H rfl ag50_16 (by rw [Bs_length, gB_len]) (by rw [List.drop_zero, List.take_of_length_le (by rw [Bs_length, gB_len]; decide)]) rfl ?_
   refine gy rfl ?_
   refine la (vs := Bs (gB b)) H rfl ag50_16 (by rw [Bs_length, gB_len]) (by rw [List.drop_zero, List.take_of_length_le (by rw [Bs_length, gB_len]; decide)]) rfl ?_
   refine gy rfl ?_
   refine eqlBs (xs := gB a) (ys := gB b) rfl rfl eg50 Tryz.underlying50 Tryz.underlying5 sz5_1 sc5 (gB_len _) (gB_len _) rfl ?_
   refine pkT (v := .bool _) rfl rfl rfl ?_
   refine asg (v := .bool _) rfl rfl ?_
   refine nl ?_
   refine then_n ?_
   refine rt ?_
   refine fin_r ?_
   exact ⟨congrArg Value.bool (by unfold sameG; rw [hg1, hg2]; rfl), H.fr⟩
  ·refine gn rfl rfl ?_
   refine gn rfl rfl ?_
   refine gn rfl rfl ?_
   refine pkF (v := .bool _) rfl rfl rfl ?_
   refine asg (v := .bool _) rfl rfl ?_
   refine nl ?_
   refine then_n ?_
   refine rt ?_
   refine fin_r ?_
   exact ⟨congrArg Value.bool (by unfold sameG; rw [hg1, hg2]; rfl), H.fr⟩
 ·refine gn rfl rfl ?_
  refine pkF (v := .bool _) rfl rfl rfl ?_
  refine mv (v := .bool _) rfl rfl ?_
  refine gn rfl rfl ?_
  refine gn rfl rfl ?_
  refine gn rfl rfl ?_
  refine pkF (v := .bool _) rfl rfl rfl ?_
  refine asg (v := .bool _) rfl rfl ?_
  refine nl ?_
  refine then_n ?_
  refine rt ?_
  refine fin_r ?_
  exact ⟨congrArg Value.bool (by unfold sameG; rw [hg1]; rfl), H.fr⟩

set_option maxRecDepth 100000 in
set_option maxHeartbeats 1000000 in
theorem c_guidText (w : World) (B : Option Addr) (n c : Nat) (b : List UInt8) (hb : RB w B n b) (hn : n = 16) : Calls Tryz.prog 59 #[.slice B n c] w (Ret fun v w' => v = .string (str (gT b)) ∧ Fr [] w w') := by
 refine enter (fun ρ => ρ 2) Tryz.func59 rfl rfl rfl (res1 rfl) ?_
 have H := SH.nil w
 have hbl := hb.1
 refine sq ?_
 refine rg ?_
 refine asg (v := .string _) rfl rfl ?_
 refine nl ?_
 refine then_n ?_
 refine sq ?_
 refine rg ?_
 refine asg (v := .string _) rfl rfl ?_
 refine nl ?_
 refine then_n ?_
 refine sq ?_
 refine rg ?_
 refine cl ca40 (c_guidOrder _) rfl ?_
 rintro _ w1 ⟨rfl, F⟩
 replace H := H.keep F; clear F
 refine al H ze87 rfl ?_
 clear H; intro b1 w2 hb1 H _
 refine sa (cs' := (ordL.map fun (k : Nat) => Value.int .i64 (k : Int))) H rfl rfl ag87_16 rfl rfl (by decide) (by omega) rfl ?_
 clear H; intro w92 H _
 refine nl ?_
 refine then_n ?_
 refine sq ?_
 refine rg ?_
 refine asg (v := .slice _ _ _) rfl rfl ?_
 refine nl ?_
 refine then_n ?_
 refine sq ?_
 refine sq ?_
 refine rg ?_
 refine mv (v := .int .i64 _) rfl rfl ?_
 refine nl ?_
 refine then_n ?_
 refine bk ?_
 refine lpM (α := Nat × Option Addr × Nat × Nat) [5, 6, 7, 9, 10, 11, 12, 13, 14, 15, 16, 17, 18, 19, 20, 21, 22, 23, 24, 25, 26, 27, 28, 29, 30, 31, 32, 33, 34, 35, 36, 37, 38, 39, 40, 41, 42, 43, 44, 45, 46] (fun (i, D, k, cap) => [(5, .slice D k cap), (9, .int .i64 (i : Int))]) (fun (i, D, k, cap) w' => i ≤ 16 ∧ k ≤ 3 * i ∧ OR 5 1 w [] w' [⟨b1, .cells (ordL.map fun (k : Nat) => Value.int .i64 (k : Int)).toArray 87 (0, 0), true⟩] D k cap (Bs (gTp b i))) (fun (i, D, k, cap) => 16 - i) (0, none, 0, 0) ?_ (fC (by first | rfl | exact congrArg (Value.int _) (by first | omega | assumption | (symm; assumption) | (simp; done) | (simp; omega)) | exact congrArg (fun n => Value.slice _ n _) (by first | omega | (simp; done) | (simp; omega))) (fC (by first | rfl | exact congrArg (Value.int _) (by first | omega | assumption | (symm; assumption) | (simp; done) | (simp; omega)) | exact congrArg (fun n => Value.slice _ n _) (by first | omega | (simp; done) | (simp; omega))) (fN _))) ?_
 ·exact ⟨by omega, by omega, OR.nil H⟩
 ·rintro ⟨i, D, k, cap⟩ ρx w3 ⟨hi, hk, O⟩
  have H := O.sh
  refine sq ?_
  refine rg ?_
  refine lss rfl rfl rfl ?_
  refine nl ?_
  refine then_n ?_
  refine sq ?_
  refine cd rfl (fun hc1 => ?_) (fun hc1 => ?_)
  ·refine sk ?_
   refine then_n ?_
   refine sq ?_
   refine bk ?_
   refine sq ?_
   refine rg ?_
   refine mv (v := .int .i64 _) rfl rfl ?_
   refine asg (v := .int .i64 _) rfl rfl ?_
   refine nl ?_
   refine then_n ?_
   refine ctM (α := Option Addr × Nat × Nat) [5, 12, 13, 14, 15, 16, 17, 18, 19, 20, 21, 22, 23, 24, 25, 26, 27, 28] (fun (D, k, cap) => [(5, .slice D k cap)]) (fun (D, k, cap) w' => k ≤ 3 * i + 1 ∧ OR 5 1 w [] w' [⟨b1, .cells (ordL.map fun (k : Nat) => Value.int .i64 (k : Int)).toArray 87 (0, 0), true⟩] D k cap (Bs (gTp b i ++ if dashT i then [45] else []))) ?_ ?_
   ·refine ctM (α := Bool) [12, 13, 14, 15, 16, 17, 18, 19, 20, 21, 22, 23, 24, 25] (fun u => [(25, .bool u)]) (fun u w' => u = dashT i ∧ OR 5 1 w [] w' [⟨b1, .cells (ordL.map fun (k : Nat) => Value.int .i64 (k : Int)).toArray 87 (0, 0), true⟩] D k cap (Bs (gTp b i))) ?_ ?_
    ·refine rg ?_
     refine mv (v := .int .i64 _) rfl rfl ?_
     refine eql rfl rfl rfl ?_
     refine mv (v := .bool _) rfl rfl ?_
     refine spd (t := 14) rfl (fun hg1 => ?_) (fun hg1 => ?_)
     ·refine gn rfl rfl ?_
      refine gn rfl rfl ?_
      refine pkT (v := .bool _) rfl rfl rfl ?_
      refine mv (v := .bool _) rfl rfl ?_
      refine gn rfl rfl ?_
      refine gn rfl rfl ?_
      refine pkT (v := .bool _) rfl rfl rfl ?_
      refine mv (v := .bool _) rfl rfl ?_
      refine gn rfl rfl ?_
      refine gn rfl rfl ?_
      refine pkT (v := .bool _) rfl rfl rfl ?_
      refine nl ?_
      refine then_n ?_
      exact ⟨true, ⟨dashT_t (by omega), O⟩, (fC (by first | rfl | exact congrArg (Value.int _) (by first | omega | assumption | (symm; assumption) | (simp; done) | (simp; omega)) | exact congrArg (fun n => Value.slice _ n _) (by first | omega | (simp; done) | (simp; omega))) (fN _)), (by repeat (first | exact Agree.setL rfl Agree.mask | exact Agree.self _ _ | refine Agree.upd rfl ?_ | refine Agree.setL rfl ?_ | refine Agree.mask2 rfl ?_))⟩
     ·refine gy rfl ?_
      refine mv (v := .int .i64 _) rfl rfl ?_
      refine gy rfl ?_
      refine eql rfl rfl rfl ?_
      refine pkF (v := .bool _) rfl rfl rfl ?_
      refine mv (v := .bool _) rfl rfl ?_
      refine spd (t := 18) rfl (fun hg2 => ?_) (fun hg2 => ?_)
      ·refine gn rfl rfl ?_
       refine gn rfl rfl ?_
       refine pkT (v := .bool _) rfl rfl rfl ?_
       refine mv (v := .bool _) rfl rfl ?_
       refine gn rfl rfl ?_
       refine gn rfl rfl ?_
       refine pkT (v := .bool _) rfl rfl rfl ?_
       refine nl ?_
       refine then_n ?_
       exact ⟨true, ⟨dashT_t (by omega), O⟩, (fC (by first | rfl | exact congrArg (Value.int _) (by first | omega | assumption | (symm; assumption) | (simp; done) | (simp; omega)) | exact congrArg (fun n => Value.slice _ n _) (by first | omega | (simp; done) | (simp; omega))) (fN _)), (by repeat (first | exact Agree.setL rfl Agree.mask | exact Agree.self _ _ | refine Agree.upd rfl ?_ | refine Agree.setL rfl ?_ | refine Agree.mask2 rfl ?_))⟩
      ·refine gy rfl ?_
       refine mv (v := .int .i64 _) rfl rfl ?_
       refine gy rfl ?_
       refine eql rfl rfl rfl ?_
       refine pkF (v := .bool _) rfl rfl rfl ?_
       refine mv (v := .bool _) rfl rfl ?_
       refine spd (t := 22) rfl (fun hg3 => ?_) (fun hg3 => ?_)
       ·refine gn rfl rfl ?_
        refine gn rfl rfl ?_
        refine pkT (v := .bool _) rfl rfl rfl ?_
        refine nl ?_
        refine then_n ?_
        exact ⟨true, ⟨dashT_t (by omega), O⟩, (fC (by first | rfl | exact congrArg (Value.int _) (by first | omega | assumption | (symm; assumption) | (simp; done) | (simp; omega)) | exact congrArg (fun n => Value.slice _ n _) (by first | omega | (simp; done) | (simp; omega))) (fN _)), (by repeat (first | exact Agree.setL rfl Agree.mask | exact Agree.self _ _ | refine Agree.upd rfl ?_ | refine Agree.setL rfl ?_ | refine Agree.mask2 rfl ?_))⟩
       ·refine gy rfl ?_
        refine mv (v := .int .i64 _) rfl rfl ?_
        refine gy rfl ?_
        refine eql rfl rfl rfl ?_
        refine pkF (v := .bool _) rfl rfl rfl ?_
        refine nl ?_
        refine then_n ?_
        exact ⟨_, ⟨dashT_d hg1 hg2 hg3, O⟩, (fC (by first | rfl | exact congrArg (Value.int _) (by first | omega | assumption | (symm; assumption) | (simp; done) | (simp; omega)) | exact congrArg (fun n => Value.slice _ n _) (by first | omega | (simp; done) | (simp; omega))) (fN _)), (by repeat (first | exact Agree.setL rfl Agree.mask | exact Agree.self _ _ | refine Agree.upd rfl ?_ | refine Agree.setL rfl ?_ | refine Agree.mask2 rfl ?_))⟩
    ·rintro u ρx w4 ⟨hu, O⟩
     have H := O.sh
     refine cn rfl (fun hc2 => ?_) (fun hc2 => ?_)
     ·refine rg ?_
      refine mv (v := .slice _ _ _) rfl rfl ?_
      refine bsl (sz := 1) (out := ?o1) H Tryz.underlying30 ze5 sz5_1 (by decide) ?f1 rfl ?_
      case f1 =>
       refine FS.one (v := .int .u8 _) rfl rfl rfl (by first | decide | simp) ?_
       exact FS.nil
      intro b2 w5 hb2 H1 F; replace O := O.new F hb2 H1.look; clear H H1 F; have H := O.sh
      refine apO (zs := [.int .u8 0]) (Bs ([45])) O rfl rfl Tryz.underlying30 ri5 (by first | rfl | simp) (cells_look H.look) Bs_one (by simp) (by omega) (by unfold maxLen; omega) rfl ?_
      clear O H; intro D9 cp9 w6 O
      have H := O.sh
      refine asg (v := .slice _ _ _) rfl rfl ?_
      refine nl ?_
      refine then_n ?_
      exact ⟨(D9, k + 1, cp9), ⟨by omega, by rw [← hu, hc2]; exact Bs_app _ _ ▸ O.sub (by repeat (first | exact List.Sublist.refl _ | exact List.nil_sublist _ | apply List.Sublist.cons_cons | apply List.Sublist.cons))⟩, (fC (by first | rfl | exact congrArg (Value.int _) (by first | omega | assumption | (symm; assumption) | (simp; done) | (simp; omega)) | exact congrArg (fun n => Value.slice _ n _) (by first | omega | (simp; done) | (simp; omega))) (fN _)), (by repeat (first | exact Agree.setL rfl Agree.mask | exact Agree.self _ _ | refine Agree.upd rfl ?_ | refine Agree.setL rfl ?_ | refine Agree.mask2 rfl ?_))⟩
     ·refine sk ?_
      refine then_n ?_
      exact ⟨(D, k, cap), ⟨by omega, by rw [← hu, hc2]; simpa using O⟩, (fC (by first | rfl | exact congrArg (Value.int _) (by first | omega | assumption | (symm; assumption) | (simp; done) | (simp; omega)) | exact congrArg (fun n => Value.slice _ n _) (by first | omega | (simp; done) | (simp; omega))) (fN _)), (by repeat (first | exact Agree.setL rfl Agree.mask | exact Agree.self _ _ | refine Agree.upd rfl ?_ | refine Agree.setL rfl ?_ | refine Agree.mask2 rfl ?_))⟩
   ·rintro ⟨D, k, cap⟩ ρx w7 ⟨hk2, O⟩
    have H := O.sh
    have hol := ord_lt16 i (by omega)
    obtain ⟨ad, rfl, hcell⟩ := hb.2 (ordL.getD i 0) (by omega)
    have hcell := H.fr.cell hcell (by simp)
    have hcu := UInt8.toNat_lt (b.getD (ordL.getD i 0) 0)
    refine sq ?_
    refine rg ?_
    refine mv (v := .slice _ _ _) rfl rfl ?_
    refine mv (v := .int .i64 _) rfl rfl ?_
    refine iyN (i) rfl rfl Tryz.underlying87 sz3_1 (by omega) (by omega) rfl ?_
    refine ld (v := .int .i64 ((ordL.getD i 0 : Nat) : Int)) H rfl sc3 (ord_get (by omega)) rfl ?_
    refine iA rfl rfl Tryz.underlying30 sz5_1 (by omega) rfl ?_
    refine lc rfl (by first | assumption | exact H.fr.cell (by assumption) (by simp)) sc5 rfl ?_
    refine asg (v := .int .u8 _) rfl rfl ?_
    refine nl ?_
    refine then_n ?_
    refine dr (by kernel_rfl) ?_
    have H := H.drew
    replace O := O.drew
    refine hold (fun w' => SH w [] w' [⟨b1, .cells (ordL.map fun (k : Nat) => Value.int .i64 (k : Int)).toArray 87 (0, 0), true⟩]) [] ?_
    refine tk (i := 0) rfl (by kernel_rfl) rfl (H.sub (by repeat (first | exact List.Sublist.refl _ | exact List.nil_sublist _ | apply List.Sublist.cons_cons | apply List.Sublist.cons))) (fun w' H => r_mv (v := .slice _ _ _) rfl) ?_
    refine tk (i := 1) rfl (by kernel_rfl) rfl (H.sub (by repeat (first | exact List.Sublist.refl _ | exact List.nil_sublist _ | apply List.Sublist.cons_cons | apply List.Sublist.cons))) (fun w' H => r_mv (v := .string _) rfl) ?_
    refine tk (i := 2) rfl (by kernel_rfl) rfl (H.sub (by repeat (first | exact List.Sublist.refl _ | exact List.nil_sublist _ | apply List.Sublist.cons_cons | apply List.Sublist.cons))) (fun w' H => r_mv (v := .int .u8 _) rfl) ?_
    refine tk (i := 3) rfl (by kernel_rfl) rfl (H.sub (by repeat (first | exact List.Sublist.refl _ | exact List.nil_sublist _ | apply List.Sublist.cons_cons | apply List.Sublist.cons))) (fun w' H => r_shrK (s := 4) (p := 16) rfl rfl (by decide) (by decide) rfl) ?_
    refine tk (i := 4) rfl (by kernel_rfl) rfl (H.sub (by repeat (first | exact List.Sublist.refl _ | exact List.nil_sublist _ | apply List.Sublist.cons_cons | apply List.Sublist.cons))) (fun w' H => r_ixS (bs := capL) rfl rfl Tryz.underlying9 (by rw [show capL.length = 16 from rfl]; omega)) ?_
    refine tk (i := 5) rfl (by kernel_rfl) rfl (H.sub (by repeat (first | exact List.Sublist.refl _ | exact List.nil_sublist _ | apply List.Sublist.cons_cons | apply List.Sublist.cons))) (fun w' H => r_mv (v := .string _) rfl) ?_
    refine tk (i := 6) rfl (by kernel_rfl) rfl (H.sub (by repeat (first | exact List.Sublist.refl _ | exact List.nil_sublist _ | apply List.Sublist.cons_cons | apply List.Sublist.cons))) (fun w' H => r_mv (v := .int .u8 _) rfl) ?_
    refine tk (i := 7) rfl (by kernel_rfl) rfl (H.sub (by repeat (first | exact List.Sublist.refl _ | exact List.nil_sublist _ | apply List.Sublist.cons_cons | apply List.Sublist.cons))) (fun w' H => r_band (c := (((b.getD (ordL.getD i 0) 0).toNat % 16 : Nat) : Int)) rfl rfl (and15 (UInt8.toNat_lt _))) ?_
    refine tk (i := 8) rfl (by kernel_rfl) rfl (H.sub (by repeat (first | exact List.Sublist.refl _ | exact List.nil_sublist _ | apply List.Sublist.cons_cons | apply List.Sublist.cons))) (fun w' H => r_ixS (bs := capL) rfl rfl Tryz.underlying9 (by rw [show capL.length = 16 from rfl]; omega)) ?_
    refine fk (i := 9) (by kernel_rfl) rfl rfl rfl ?_
    refine bsl (sz := 1) (out := Bs [capL.getD ((b.getD (ordL.getD i 0) 0).toNat / 16) 0, capL.getD ((b.getD (ordL.getD i 0) 0).toNat % 16) 0]) H Tryz.underlying30 ze5 sz5_1 (by decide) (by
     refine FS.one (v := .int .u8 _) rfl rfl rfl (by decide) ?_
     refine FS.one (v := .int .u8 _) rfl rfl rfl (by first | decide | simp) ?_
     exact FS.nil) rfl ?_
    intro b10 w95 hb10 H1 F; replace O := O.new F hb10 H1.look; clear H H1 F; have H := O.sh
    refine nl ?_
    refine then_n ?_
    refine ⟨H.sub (by repeat (first | exact List.Sublist.refl _ | exact List.nil_sublist _ | apply List.Sublist.cons_cons | apply List.Sublist.cons)), ?_⟩
    refine fk (i := 10) (by kernel_rfl) rfl rfl rfl ?_
    refine apO (zs := [.int .u8 0]) (Bs ([capL.getD ((b.getD (ordL.getD i 0) 0).toNat / 16) 0, capL.getD ((b.getD (ordL.getD i 0) 0).toNat % 16) 0])) O rfl rfl Tryz.underlying30 ri5 (by first | rfl | simp) (cells_look H.look) Bs_one (by simp) (by omega) (by unfold maxLen; omega) rfl ?_
    clear O H; intro D9 cp9 w8 O
    have H := O.sh
    refine nl ?_
    refine then_n ?_
    refine ⟨H.sub (by repeat (first | exact List.Sublist.refl _ | exact List.nil_sublist _ | apply List.Sublist.cons_cons | apply List.Sublist.cons)), ?_⟩
    refine tk (i := 11) rfl (by kernel_rfl) rfl (H.sub (by repeat (first | exact List.Sublist.refl _ | exact List.nil_sublist _ | apply List.Sublist.cons_cons | apply List.Sublist.cons))) (fun w' H => r_asg (v := .slice _ _ _) rfl) ?_
    refine da (by kernel_rfl) ?_
    refine in_n ?_
    refine then_n ?_
    refine rg ?_
    refine add rfl rfl (by first | exact w_i64 (by omega) | exact w_i64 (rng_i64 _) | rfl) rfl ?_
    refine mv (v := .int .i64 _) rfl rfl ?_
    refine nl ?_
    refine loop_n ?_
    exact ⟨(i + 1, D9, k + 2, cp9), (by (try dsimp only); omega), ⟨by omega, by omega, by rw [gTp_succ, gTk, ← List.append_assoc]; exact Bs_app _ _ ▸ O.sub (by repeat (first | exact List.Sublist.refl _ | exact List.nil_sublist _ | apply List.Sublist.cons_cons | apply List.Sublist.cons))⟩, (fC (by first | rfl | exact congrArg (Value.int _) (by first | omega | assumption | (symm; assumption) | (simp; done) | (simp; omega)) | exact congrArg (fun n => Value.slice _ n _) (by first | omega | (simp; done) | (simp; omega))) (fC (by first | rfl | exact congrArg (Value.int _) (by first | omega | assumption | (symm; assumption) | (simp; done) | (simp; omega)) | exact congrArg (fun n => Value.slice _ n _) (by first | omega | (simp; done) | (simp; omega))) (fN _))), (by repeat (first | exact Agree.setL rfl Agree.mask | exact Agree.self _ _ | refine Agree.upd rfl ?_ | refine Agree.setL rfl ?_ | refine Agree.mask2 rfl ?_))⟩
  ·refine ex ?_
   refine then_e ?_
   refine loop_e ?_
   refine in_hit rfl ?_
   refine then_n ?_
   refine sq ?_
   refine rg ?_
   refine mv (v := .slice _ _ _) rfl rfl ?_
   refine cvBS rfl (by exact O.rb) Tryz.underlying30 Tryz.underlying5 Tryz.underlying9 rfl ?_
   refine asg (v := .string _) rfl rfl ?_
   refine nl ?_
   refine then_n ?_
   refine rt ?_
   refine fin_r ?_
   obtain rfl : i = 16 := by omega
   exact ⟨rfl, O.sh.fr⟩

end Go.Proofs.YthcaejaaalkglaaGreatDoor.X
/- Walks of functions, printed by a program of this claim. -/
namespace Go.Proofs.YthcaejaaalkglaaGreatDoor.X
set_option linter.unusedVariables false
set_option linter.unusedSimpArgs false
open Go Go.RowKit

namespace PF
theorem ca42 : callable Tryz.prog 42 = true := by kernel_rfl
theorem ri25 : rowInfo Tryz.prog 25 = some ([.int .u16 0], 2) := by kernel_rfl
theorem sz25_1 : sizeB Tryz.prog 25 1 = true := by kernel_rfl
theorem ze25 : zeroL Tryz.prog 25 = some [.int .u16 0] := by kernel_rfl
end PF
open PF

set_option maxRecDepth 100000 in
set_option maxHeartbeats 1000000 in
theorem c_utf16 (w : World) (s : List UInt8) (hs : s.length ≤ 2147483647) : Calls Tryz.prog 42 #[.string (str s)] w (Ret fun v w' => ∃ D cap, v = .slice D (utf16 s).length cap ∧ OR 25 1 w [] w' [] D (utf16 s).length cap ((utf16 s).map (Value.int .u16))) := by
 refine enter (fun ρ => ρ 2) Tryz.func42 rfl rfl rfl (res1 rfl) ?_
 have H := SH.nil w
 refine sq ?_
 refine rg ?_
 refine asg (v := .slice _ _ _) rfl rfl ?_
 refine nl ?_
 refine then_n ?_
 refine sq ?_
 refine rg ?_
 refine asg (v := .slice _ _ _) rfl rfl ?_
 refine nl ?_
 refine then_n ?_
 refine sq ?_
 refine sq ?_
 refine rg ?_
 refine mv (v := .string _) rfl rfl ?_
 refine rngS H rfl Tryz.underlying9 rfl ?_
 clear H; intro b1 w1 hb1 H _
 refine nl ?_
 refine then_n ?_
 refine bk ?_
 refine lpM (α := Nat × Option Addr × Nat × List Int) [3, 5, 8, 9, 10, 11, 12, 13, 14, 15, 16, 17, 18, 19, 20, 21, 22, 23, 24, 25, 26, 27, 28, 29, 30] (fun (p, D, cap, us) => [(3, .slice D us.length cap)]) (fun (p, D, cap, us) w' => p ≤ s.length ∧ us.length ≤ p ∧ utf16 s = us ++ utf16 (s.drop p) ∧ OR 25 1 w [] w' [⟨b1, .stringIter (str s) p, true⟩] D us.length cap (us.map (Value.int .u16))) (fun (p, D, cap, us) => s.length - p) (0, none, 0, []) ?_ (fC (by first | rfl | exact congrArg (Value.int _) (by first | omega | assumption | (symm; assumption) | (simp; done) | (simp; omega)) | exact congrArg (fun n => Value.slice _ n _) (by first | omega | (simp; done) | (simp; omega))) (fN _)) ?_
 ·exact ⟨by omega, by simp, rfl, OR.nil H⟩
 ·rintro ⟨p, D, cap, us⟩ ρx w2 ⟨hp, hul, hus, O⟩
  have H := O.sh
  refine sq ?_
  refine rg ?_
  refine nxt H rfl rfl ?_
  intro w3 H1 F; replace O := O.put F H1.look; clear H H1 F; have H := O.sh
  refine xt rfl (next0 _ _) rfl ?_
  refine nl ?_
  refine then_n ?_
  refine sq ?_
  refine cd rfl (fun hc1 => ?_) (fun hc1 => ?_)
  ·have hlt : p < s.length := by assumption
   rw [nextP_of hlt] at O H
   obtain ⟨g1, g2, g3, g4, g5, g6, _⟩ := rune_at hlt
   rw [List.length_drop] at g2
   refine sk ?_
   refine then_n ?_
   refine bk ?_
   refine sq ?_
   refine rg ?_
   refine xt rfl (next2 (by omega)) rfl ?_
   refine asg (v := .int .i32 _) rfl rfl ?_
   refine nl ?_
   refine then_n ?_
   refine sq ?_
   refine sq ?_
   refine rg ?_
   refine mv (v := .int .i32 _) rfl rfl ?_
   refine geq rfl rfl rfl ?_
   refine nl ?_
   refine then_n ?_
   refine cd rfl (fun hc2 => ?_) (fun hc2 => ?_)
   ·have h4 := g6 (by omega)
    have hu2 : u16 (rune1 (s.drop p)).1 = [55296 + ((((rune1 (s.drop p)).1 : Int) - 65536) / 1024), 56320 + ((((rune1 (s.drop p)).1 : Int) - 65536) % 1024)] := by
     unfold u16; rw [if_pos (by omega)]; congr 1; omega; congr 1; omega
    have hu2l : (u16 (rune1 (s.drop p)).1).length = 2 := by rw [hu2]; rfl
    refine sq ?_
    refine rg ?_
    refine mv (v := .int .i32 _) rfl rfl ?_
    refine sub rfl rfl (by first | exact w_i32 (by omega) | exact w_i32 (rng_i32 _) | rfl) rfl ?_
    refine asg (v := .int .i32 _) rfl rfl ?_
    refine nl ?_
    refine then_n ?_
    refine sq ?_
    refine rg ?_
    refine mv (v := .slice _ _ _) rfl rfl ?_
    refine mv (v := .int .i32 _) rfl rfl ?_
    refine shrK (s := 10) (p := 1024) rfl rfl (by decide) (by decide) rfl rfl ?_
    refine cvi rfl rfl Tryz.underlying25 (by first | exact w_u16 (by omega) | exact w_u16 (rng_u16 _) | exact m_u16 _) rfl ?_
    refine add rfl rfl (by first | exact w_u16 (by omega) | exact w_u16 (rng_u16 _) | exact m_u16 _) rfl ?_
    refine mv (v := .int .i32 _) rfl rfl ?_
    refine band (c := (((rune1 (s.drop p)).1 : Int) - 65536) % 1024) rfl rfl (and1023 (by omega)) rfl ?_
    refine cvi rfl rfl Tryz.underlying25 (by first | exact w_u16 (by omega) | exact w_u16 (rng_u16 _) | exact m_u16 _) rfl ?_
    refine add rfl rfl (by first | exact w_u16 (by omega) | exact w_u16 (rng_u16 _) | exact m_u16 _) rfl ?_
    refine bsl (sz := 1) (out := ?o1) H Tryz.underlying90 ze25 sz25_1 (by decide) ?f1 rfl ?_
    case f1 =>
     refine FS.one (v := .int .u16 _) rfl rfl rfl (by first | decide | simp) ?_
     refine FS.one (v := .int .u16 _) rfl rfl rfl (by first | decide | simp) ?_
     exact FS.nil
    intro b2 w4 hb2 H1 F; replace O := O.new F hb2 H1.look; clear H H1 F; have H := O.sh
    refine apO (zs := [.int .u16 0]) ([.int .u16 (55296 + ((((rune1 (s.drop p)).1 : Int) - 65536) / 1024)), .int .u16 (56320 + ((((rune1 (s.drop p)).1 : Int) - 65536) % 1024))]) O rfl rfl Tryz.underlying90 ri25 (by first | rfl | simp) (cells_look H.look) (by simp [Value.oneCell']) (by simp) (by omega) (by unfold maxLen; omega) rfl ?_
    clear O H; intro D9 cp9 w5 O
    have H := O.sh
    refine asg (v := .slice _ _ _) rfl rfl ?_
    refine nl ?_
    refine then_n ?_
    refine ex ?_
    refine then_e ?_
    refine in_hit rfl ?_
    refine loop_n ?_
    exact ⟨(p + (rune1 (s.drop p)).2, D9, cp9, us ++ u16 (rune1 (s.drop p)).1), (by (try dsimp only); omega), ⟨by omega, by rw [List.length_append, hu2]; simp; omega, by rw [hus, utf16_at hlt, List.append_assoc], by rw [hu2, List.length_append, List.map_append]; exact O.sub (by repeat (first | exact List.Sublist.refl _ | exact List.nil_sublist _ | apply List.Sublist.cons_cons | apply List.Sublist.cons))⟩, (fC (by first | rfl | exact congrArg (Value.int _) (by first | omega | assumption | (symm; assumption) | (simp; done) | (simp; omega)) | exact congrArg (fun n => Value.slice _ n _) (by first | omega | (simp; done) | (simp; omega))) (fN _)), (by repeat (first | exact Agree.setL rfl Agree.mask | exact Agree.self _ _ | refine Agree.upd rfl ?_ | refine Agree.setL rfl ?_ | refine Agree.mask2 rfl ?_))⟩
   ·have hu1 : u16 (rune1 (s.drop p)).1 = [((rune1 (s.drop p)).1 : Int)] := by unfold u16; rw [if_neg (by omega)]
    have hu1l : (u16 (rune1 (s.drop p)).1).length = 1 := by rw [hu1]; rfl
    refine sk ?_
    refine then_n ?_
    refine rg ?_
    refine mv (v := .slice _ _ _) rfl rfl ?_
    refine mv (v := .int .i32 _) rfl rfl ?_
    refine cvi rfl rfl Tryz.underlying25 (by first | exact w_u16 (by omega) | exact w_u16 (rng_u16 _) | exact m_u16 _) rfl ?_
    refine bsl (sz := 1) (out := ?o2) H Tryz.underlying90 ze25 sz25_1 (by decide) ?f2 rfl ?_
    case f2 =>
     refine FS.one (v := .int .u16 _) rfl rfl rfl (by first | decide | simp) ?_
     exact FS.nil
    intro b3 w6 hb3 H1 F; replace O := O.new F hb3 H1.look; clear H H1 F; have H := O.sh
    refine apO (zs := [.int .u16 0]) ([.int .u16 ((rune1 (s.drop p)).1 : Int)]) O rfl rfl Tryz.underlying90 ri25 (by first | rfl | simp) (cells_look H.look) (by simp [Value.oneCell']) (by simp) (by omega) (by unfold maxLen; omega) rfl ?_
    clear O H; intro D9 cp9 w7 O
    have H := O.sh
    refine asg (v := .slice _ _ _) rfl rfl ?_
    refine nl ?_
    refine in_n ?_
    refine loop_n ?_
    exact ⟨(p + (rune1 (s.drop p)).2, D9, cp9, us ++ u16 (rune1 (s.drop p)).1), (by (try dsimp only); omega), ⟨by omega, by rw [List.length_append, hu1]; simp; omega, by rw [hus, utf16_at hlt, List.append_assoc], by rw [hu1, List.length_append, List.map_append]; exact O.sub (by repeat (first | exact List.Sublist.refl _ | exact List.nil_sublist _ | apply List.Sublist.cons_cons | apply List.Sublist.cons))⟩, (fC (by first | rfl | exact congrArg (Value.int _) (by first | omega | assumption | (symm; assumption) | (simp; done) | (simp; omega)) | exact congrArg (fun n => Value.slice _ n _) (by first | omega | (simp; done) | (simp; omega))) (fN _)), (by repeat (first | exact Agree.setL rfl Agree.mask | exact Agree.self _ _ | refine Agree.upd rfl ?_ | refine Agree.setL rfl ?_ | refine Agree.mask2 rfl ?_))⟩
  ·refine ex ?_
   refine then_e ?_
   refine loop_e ?_
   refine in_hit rfl ?_
   refine then_n ?_
   refine sq ?_
   refine rg ?_
   refine mv (v := .slice _ _ _) rfl rfl ?_
   refine asg (v := .slice _ _ _) rfl rfl ?_
   refine nl ?_
   refine then_n ?_
   refine rt ?_
   refine fin_r ?_
   obtain rfl : p = s.length := by omega
   have e : utf16 s = us := by rw [hus, List.drop_length, utf16_nil, List.append_nil]
   rw [e]
   exact ⟨D, cap, rfl, O.sub (List.nil_sublist _)⟩

set_option maxRecDepth 100000 in
set_option maxHeartbeats 1000000 in
theorem c_gptName (w : World) (s : List UInt8) (hs : s.length ≤ 2147483647) : Calls Tryz.prog 24 #[.string (str s)] w (Ret fun v w' => v = .bool (decide ((utf16 s).length ≤ 36)) ∧ Fr [] w w') := by
 refine enter (fun ρ => ρ 2) Tryz.func24 rfl rfl rfl (res1 rfl) ?_
 have H := SH.nil w
 refine sq ?_
 refine rg ?_
 refine asg (v := .bool _) rfl rfl ?_
 refine nl ?_
 refine then_n ?_
 refine sq ?_
 refine rg ?_
 refine mv (v := .string _) rfl rfl ?_
 refine cl ca42 (c_utf16 _ _ (by omega)) rfl ?_
 rintro _ w1 ⟨DU, capU, rfl, O⟩
 replace O := O.join H; clear H; have H := O.sh
 refine lnS rfl Tryz.underlying90 rfl ?_
 refine leq rfl rfl rfl ?_
 refine asg (v := .bool _) rfl rfl ?_
 refine nl ?_
 refine then_n ?_
 refine rt ?_
 refine fin_r ?_
 refine ⟨congrArg Value.bool (decide_eq_decide.2 ?_), H.fr⟩
 omega

end Go.Proofs.YthcaejaaalkglaaGreatDoor.X
/- The laws of single operations: bytes copied whole. -/
namespace Go.Proofs.YthcaejaaalkglaaGreatDoor.X
set_option linter.unusedVariables false
open Go Go.RowKit
section steps
variable {P : Program} {n : Nat} {ops : Array Oper} {Q : Post} {rest : List Oper} {ρ : Env} {w : World} {ty : TypeId} {pos : String} {af : Array Edge} {d : Nat}
variable {w0 : World} {S : List Nat} {L L' : List Ent}
/-- copy(dst, src) of bytes for which there is room. -/
theorem cpP {t e T : TypeId} {x y : Operand} {b o dl dc sl sc f1 f2 : Nat} {A : Option Addr} {ds bs : List UInt8} (H : SH w0 S w L) (hx : ev ρ x = .slice (some ⟨b, o, none⟩) dl dc) (hy : ev ρ y = .slice A sl sc) (hu : P.underlying t = some (.slice e)) (hs : sizeB P e 1 = true)
    [lk : Look L b (.cells (Bs ds).toArray T (f1, f2))] (hr : RB w A sl bs) (hle : sl ≤ dl) (ho : o + dl ≤ ds.length) (hf : f2 ≤ o ∨ o + dl ≤ f1)
    [tn : Turn L b (.cells (Bs (pAt ds o bs)).toArray T (f1, f2)) L'] (hn : Nat.blt d n = true)
    (kk : ∀ w', SH w0 S w' L' → Fr [b] w w' → (pAt ds o bs).length = ds.length → wl P n ops Q rest (upd ρ d (.int .i64 (sl : Int))) w') : wl P n ops Q (⟨some d, .call { callee := .builtin .copy, args := #[x, y], argTypes := #[t, t] }, ty, pos, af, none⟩ :: rest) ρ w := by
  have hm : min sl dl = sl := Nat.min_eq_left hle
  have he : ds.take o ++ bs.take (min sl dl) ++ ds.drop (o + min sl dl) = pAt ds o bs := by
    rw [hm, List.take_of_length_le (l := bs) (by rw [hr.1]; exact Nat.le_refl _)]
    unfold pAt; rw [hr.1]
  refine cpB (L' := L') (tn := by rw [he]; exact tn) H hx hy hu hs hr ho hf hn (fun w' h1 h2 => ?_)
  rw [hm]; exact kk w' h1 h2 (pAt_len (by rw [hr.1]; omega))
/-- copy(dst, text). -/
theorem cpT {t e T tq : TypeId} {x y : Operand} {b o dl dc f1 f2 : Nat} {ds bs : List UInt8} (H : SH w0 S w L) (hx : ev ρ x = .slice (some ⟨b, o, none⟩) dl dc) (hy : ev ρ y = .string (str bs)) (hu : P.underlying t = some (.slice e)) (hs : sizeB P e 1 = true)
    [lk : Look L b (.cells (Bs ds).toArray T (f1, f2))] (hle : bs.length ≤ dl) (ho : o + dl ≤ ds.length) (hf : f2 ≤ o ∨ o + dl ≤ f1)
    [tn : Turn L b (.cells (Bs (pAt ds o bs)).toArray T (f1, f2)) L'] (hn : Nat.blt d n = true)
    (kk : ∀ w', SH w0 S w' L' → Fr [b] w w' → (pAt ds o bs).length = ds.length → wl P n ops Q rest (upd ρ d (.int .i64 (bs.length : Int))) w') : wl P n ops Q (⟨some d, .call { callee := .builtin .copy, args := #[x, y], argTypes := #[t, tq] }, ty, pos, af, none⟩ :: rest) ρ w := by
  have hL := H.look (b := b) (o := .cells (Bs ds).toArray T (f1, f2))
  obtain ⟨h2, f2'⟩ := heap_setCells (Bs bs) o w b (Bs ds) T (f1, f2) hL (by simp; omega)
  have hst := run_storeCells_at' (P := P) (o := o) (Bs bs) hL (by simp; omega) (by simp; omega) (by intro v hv; obtain ⟨_, _, rfl⟩ := List.mem_map.1 hv; rfl)
  have hex : List.take bs.length (List.map (fun b : UInt8 => Value.int .u8 (b.toNat : Int)) (str bs).data.toList) = Bs bs := by
    rw [List.take_of_length_le (by simp [str])]
    rfl
  refine val rfl rfl hn (w' := w.setCells b o (Bs bs)) (v := .int .i64 (bs.length : Int)) ?_ (kk _ (H.put (b := b) (o' := .cells (Bs (pAt ds o bs)).toArray T (f1, f2)) f2' ?_) f2' (pAt_len (by omega)))
  · have hmin : Nat.min bs.length dl = bs.length := Nat.min_eq_left hle
    simp only [execOp, resolve, invoke, builtin, Sem.run_bind, Sem.run_pure, Result.andThen_ok, List.map_toArray, List.map_cons, List.map_nil, hx, hy]
    simp [Builtin.copy_, run_underlying hu, Builtin.lenOf, run_sizeOf hs, hmin, Builtin.firstCells, hex, hst, goInt]
  · rw [h2]; simp [Bs, pAt]
end steps
end Go.Proofs.YthcaejaaalkglaaGreatDoor.X
