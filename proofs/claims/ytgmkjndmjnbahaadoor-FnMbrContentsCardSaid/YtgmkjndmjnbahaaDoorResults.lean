/- Results that lie in cells. -/
import Derived.Test.YtgmkjndmjnbahaaDoorSteps4
namespace Go.Proofs.YtgmkjndmjnbahaaDoor.X
open Go Go.RowKit
set_option linter.unusedVariables false
/-- What one result variable gives. -/
def resOne (P : Program) (ρ : Env) (w : World) : ResultVar → Value → Prop
  | .tmp t, v => v = ρ t
  | .cell t ty, v => ∃ (ad : Addr) (cs : List Value), ρ t = .pointer (some ad) ∧ aggB P ty cs.length = true ∧ (∀ j u, cs[j]? = some u → w.cell? (ad.add j) = some u) ∧ v = .agg cs.toArray
def resAll (P : Program) (ρ : Env) (w : World) : List ResultVar → List Value → Prop
  | [], [] => True
  | r :: rs, v :: vs => resOne P ρ w r v ∧ resAll P ρ w rs vs
  | _, _ => False
def resVal : List Value → Value
  | [v] => v
  | vs => .tuple vs.toArray
def finR (P : Program) (rs : List ResultVar) (φ : Value → World → Prop) : Post
  | .normal, ρ, w => ∃ vs, resAll P ρ w rs vs ∧ φ (resVal vs) w
  | .ret, ρ, w => ∃ vs, resAll P ρ w rs vs ∧ φ (resVal vs) w
  | _, _, _ => False
def resSem (a : Act) : ResultVar → Sem Value
  | .tmp t => pure (a.tmps.getD t undef)
  | .cell d t => do loadVar t (← asAddr (a.tmps.getD d undef))
theorem resOne_run {P : Program} {a : Act} {w : World} {r : ResultVar} {v : Value} (h : resOne P (envOf a) w r v) : (resSem a r).run P w = .ok v w := by
  cases r with
  | tmp t => simp only [resOne, envOf] at h; subst h; simp [resSem]
  | cell d t =>
    obtain ⟨ad, cs, h1, h2, h3, rfl⟩ := h
    simp only [envOf] at h1
    have hl := run_loadVar_agg (P := P) (w := w) (a := ad) h2 rfl h3
    simp only [resSem, h1]
    simp [asAddr, hl]
theorem resAll_len {P : Program} {ρ : Env} {w : World} : ∀ {rs : List ResultVar} {vs : List Value}, resAll P ρ w rs vs → rs.length = vs.length
  | [], [], _ => rfl
  | [], _ :: _, h => h.elim
  | _ :: _, [], h => h.elim
  | _ :: rs, _ :: vs, h => by simp [resAll_len h.2]
theorem resAll_mapM {P : Program} {a : Act} {w : World} : ∀ {rs : List ResultVar} {vs : List Value}, resAll P (envOf a) w rs vs → (rs.mapM (resSem a)).run P w = .ok vs w
  | [], [], _ => by simp
  | [], _ :: _, h => h.elim
  | _ :: _, [], h => h.elim
  | r :: rs, v :: vs, h => by
    have h1 := resOne_run h.1
    have h2 := resAll_mapM h.2
    simp only [List.mapM_cons, Sem.run_bind, h1, Result.andThen_ok, h2, Sem.run_pure]
theorem results_run {P : Program} {fn : Func} {a : Act} {w : World} {rs : List ResultVar} {vs : List Value} (hf : fn.results = rs.toArray) (h : resAll P (envOf a) w rs vs) : (results fn a.tmps).run P w = .ok (resVal vs) w := by
  have hm := resAll_mapM h
  have e : results fn a.tmps = (do
      let vs ← fn.results.mapM (resSem a)
      pure (if h : vs.size = 1 then vs[0] else .tuple vs)) := by
    unfold results
    congr 2
  rw [e, hf, List.mapM_toArray]
  simp only [Sem.run_bind, Sem.run_map, hm, Result.andThen_ok]
  cases vs with
  | nil => simp [resVal]
  | cons v vs =>
    cases vs with
    | nil => simp [resVal]
    | cons u vs => simp [resVal]
theorem enterR {P : Program} {f : FuncId} {fn : Func} {c : Code} {l : List Value} {w : World} {φ : Value → World → Prop} {n : Nat} (rs : List ResultVar)
    (hf : P.funcs[f]? = some fn) (hb : fn.body = some c) (hn : fn.ntmps = n) (hl : Nat.ble l.length n = true) (hr : fn.results = rs.toArray)
    (h : cw P n c (finR P rs φ) (argEnv l) w) : Calls P f l.toArray w (Ret φ) := by
  have hl' : l.length ≤ n := Nat.le_of_ble_eq_true hl
  refine calls_of_wp hf hb ?_
  subst hn
  have he : envOf { tmps := l.toArray ++ Array.replicate (fn.ntmps - l.toArray.size) undef, defers := [] } = argEnv l := by
    funext t
    simp only [envOf, argEnv, Array.getD_eq_getD_getElem?, Array.getElem?_append, List.size_toArray, List.getElem?_toArray, List.getD_eq_getElem?_getD]
    by_cases ht : t < l.length
    · rw [if_pos ht]
    · rw [if_neg ht, List.getElem?_eq_none (by omega)]
      simp [Array.getElem?_replicate]
      split <;> rfl
  refine wp_mono (h _ rfl (by simp; omega) he) ?_
  rintro e a w ⟨h1, h2, h3⟩
  cases e with
  | normal => obtain ⟨vs, hv, hφ⟩ := h3; exact ⟨h1, _, results_run hr hv, hφ⟩
  | ret => obtain ⟨vs, hv, hφ⟩ := h3; exact ⟨h1, _, results_run hr hv, hφ⟩
  | _ => exact h3.elim
theorem finR_n {P : Program} {rs : List ResultVar} {φ : Value → World → Prop} {ρ : Env} {w : World} (h : ∃ vs, resAll P ρ w rs vs ∧ φ (resVal vs) w) : finR P rs φ .normal ρ w := h
theorem finR_r {P : Program} {rs : List ResultVar} {φ : Value → World → Prop} {ρ : Env} {w : World} (h : ∃ vs, resAll P ρ w rs vs ∧ φ (resVal vs) w) : finR P rs φ .ret ρ w := h
theorem finC {P : Program} {t : Nat} {ty : TypeId} {ρ : Env} {w : World} {b : Nat} {cs : List Value} {T : TypeId} {fr : Nat × Nat} (ht : ρ t = .pointer (some ⟨b, 0, none⟩)) (hc : w.heap[b]? = some (.cells cs.toArray T fr)) (ha : aggB P ty cs.length = true) : resOne P ρ w (.cell t ty) (.agg cs.toArray) :=
  ⟨_, cs, ht, ha, fun j u hu => by rw [Addr.add_lit, cell_at hc]; simpa using hu, rfl⟩
end Go.Proofs.YtgmkjndmjnbahaaDoor.X
