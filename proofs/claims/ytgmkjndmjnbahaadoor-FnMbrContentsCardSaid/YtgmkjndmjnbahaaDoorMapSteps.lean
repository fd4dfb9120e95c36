/- The laws of single operations: maps that are written out, methods of interface values. -/
import Derived.Test.YtgmkjndmjnbahaaDoorSteps4
import Derived.WideMake
namespace Go.Proofs.YtgmkjndmjnbahaaDoor.X
set_option linter.unusedVariables false
open Go Go.RowKit
theorem getMap {P : Program} {w : World} {r : Nat} {es : Array MapEntry} {clock : Nat} (hb : w.heap[r]? = some (.map es clock)) : (getObj r).run P w = .ok (.map es clock) w := by simp [getObj, Sem.run, hb]
theorem setMap {P : Program} {w : World} {r : Nat} {es : Array MapEntry} {clock : Nat} (o : Obj) (hb : w.heap[r]? = some (.map es clock)) : (setObj r o).run P w = .ok () { w with heap := w.heap.setIfInBounds r o } := by simp [setObj, Sem.run, hb]
section steps
variable {P : Program} {n : Nat} {ops : Array Oper} {Q : Post} {rest : List Oper} {ρ : Env} {w : World} {ty : TypeId} {pos : String} {af : Array Edge} {d : Nat}
variable {w0 : World} {S : List Nat} {L L' : List Ent}
theorem mkm {t : TypeId} (H : SH w0 S w L) (hn : Nat.blt d n = true) (kk : ∀ b w', w.heap.size ≤ b → SH w0 S w' (⟨b, .map ([] : List MapEntry).toArray 0, true⟩ :: L) → Fr [] w w' → wl P n ops Q rest (upd ρ d (.map (some b))) w') : wl P n ops Q (⟨some d, .makeMap t none, ty, pos, af, none⟩ :: rest) ρ w :=
  val rfl rfl hn (w' := w.alloc (.map #[] 0)) (v := .map (some w.heap.size)) (by have h := run_makeMap_plain (P := P) w t; simp [execOp, h]) (kk _ _ (Nat.le_refl _) (H.new (Fr.alloc _ _) (Nat.le_refl _) (heap_alloc_new _ _)) (Fr.alloc _ _))
theorem ins {t kt et : TypeId} {kd kq : IntKind} {m k x : Operand} {b clock : Nat} {es : List MapEntry} {z : Int} {v : Value} (H : SH w0 S w L) (hm : ev ρ m = .map (some b)) (hk : ev ρ k = .int kq z) (hx : ev ρ x = v) (hu : P.underlying t = some (.map kt et)) (hkt : P.underlying kt = some (.int kd)) [Look L b (.map es.toArray clock)] (hf : Instr.findNow (.int kd) (.int kq z) es 0 = some none)
    [tn : Turn L b (.map (es ++ [(MapEntry.mk (.int kq z) v clock)]).toArray (clock + 1)) L'] (kk : ∀ w', SH w0 S w' L' → Fr [b] w w' → wl P n ops Q rest ρ w') : wl P n ops Q (⟨none, .insert t m k x, ty, pos, af, none⟩ :: rest) ρ w := by
  have hL := H.look (b := b) (o := .map es.toArray clock)
  have hg := getMap (P := P) hL
  have hs := setMap (P := P) (.map (es ++ [(MapEntry.mk (.int kq z) v clock)]).toArray (clock + 1)) hL
  have hlt := lt_of_at hL
  have hfr : Fr [b] w { w with heap := w.heap.setIfInBounds b (.map (es ++ [(MapEntry.mk (.int kq z) v clock)]).toArray (clock + 1)) } :=
    ⟨rfl, rfl, rfl, by simp, fun i _ hi => by
      have : b ≠ i := fun e => hi (by simp [e])
      simp [this]⟩
  refine unt rfl rfl (w' := { w with heap := w.heap.setIfInBounds b (.map (es ++ [(MapEntry.mk (.int kq z) v clock)]).toArray (clock + 1)) }) ?_ (kk _ (H.put (b := b) (o' := .map (es ++ [(MapEntry.mk (.int kq z) v clock)]).toArray (clock + 1)) hfr (by simp [hlt])) hfr)
  have hc : (Instr.checkKey false 10000 kt (.int kq z)).run P w = .ok () w := by
    rw [show (10000 : Nat) = 9999 + 1 from rfl, Instr.checkKey]
    simp [run_underlying hkt]
  have e1 : es.toArray.push (MapEntry.mk (.int kq z) v clock) = (es ++ [(MapEntry.mk (.int kq z) v clock)]).toArray := by simp
  simp only [execOp, hm, hk, hx]
  simp [Instr.mapUpdate, run_underlying hu, hg, hc, Instr.findKey, run_underlying hkt, hf, hs]
theorem lkp {t kt et : TypeId} {kd kq : IntKind} {m k : Operand} {b clock : Nat} {es : List MapEntry} {z : Int} {v : Value} (H : SH w0 S w L) (hm : ev ρ m = .map (some b)) (hk : ev ρ k = .int kq z) (hu : P.underlying t = some (.map kt et)) (hkt : P.underlying kt = some (.int kd)) [Look L b (.map es.toArray clock)] (hf : ∃ i, Instr.findNow (.int kd) (.int kq z) es 0 = some (some (i, v)))
    (hn : Nat.blt d n = true) (kk : wl P n ops Q rest (upd ρ d v) w) : wl P n ops Q (⟨some d, .lookup t m k false, ty, pos, af, none⟩ :: rest) ρ w := by
  obtain ⟨i, hf⟩ := hf
  have hL := H.look (b := b) (o := .map es.toArray clock)
  have hg := getMap (P := P) hL
  have hc : (Instr.checkKey es.isEmpty 10000 kt (.int kq z)).run P w = .ok () w := by
    rw [show (10000 : Nat) = 9999 + 1 from rfl, Instr.checkKey]
    simp [run_underlying hkt]
  refine val rfl rfl hn ?_ kk
  simp only [execOp, hm, hk]
  simp [Instr.lookup, run_underlying hu, hg, hc, Instr.findKey, run_underlying hkt, hf]
/-- A method of an interface value. -/
theorem mc {recv : Operand} {name : String} {xs : List Operand} {ts : Array TypeId} {t : TypeId} {f : FuncId} {rv : Value} {φ : Value → World → Prop} (hr : ev ρ recv = .iface t rv) (hm : ∀ v w, (method (P.types.size + Made.depth) t v name).run P w = .ok (f, v) w) (hf : callable P f = true) (hc : Calls P f (rv :: xs.map (ev ρ)).toArray w (Ret φ)) (hn : Nat.blt d n = true)
    (k : ∀ v w', φ v w' → wl P n ops Q rest (upd ρ d v) w') : wl P n ops Q (⟨some d, .call { callee := .invoke recv name, args := xs.toArray, argTypes := ts }, ty, pos, af, none⟩ :: rest) ρ w :=
  enterC rfl rfl hn (by
    have e2 : #[rv] ++ (xs.map (ev ρ)).toArray = (rv :: xs.map (ev ρ)).toArray := by simp
    have e3 : (callMethod (.iface t rv) name (xs.map (ev ρ)).toArray).run P w = .ok (.enter f (rv :: xs.map (ev ρ)).toArray) w := by
      simp [callMethod, hm, run_callFunc hf, run_program]
    have e4 : List.take xs.length (List.map (ev ρ) xs) = List.map (ev ρ) xs := List.take_of_length_le (by simp)
    simp only [execOp, resolve, invoke, hr, Sem.run_bind, Sem.run_pure, Result.andThen_ok, List.map_toArray]
    simp [e3, e4]) hc k
end steps
end Go.Proofs.YtgmkjndmjnbahaaDoor.X
