/- One law for each kind of operation. -/
import Derived.Test.YtgmkjndmjnbahaaDoorHeap
namespace Go.Proofs.YtgmkjndmjnbahaaDoor.X
open Go Go.RowKit

/-! ### Calls: entering a function, and its results -/
def Ret (φ : Value → World → Prop) : Ending → World → Prop
  | .returned v, w => φ v w
  | _, _ => False
def fin (r : Env → Value) (φ : Value → World → Prop) : Post
  | .normal, ρ, w => φ (r ρ) w
  | .ret, ρ, w => φ (r ρ) w
  | _, _, _ => False
def argEnv (l : List Value) : Env := fun t => l.getD t undef
theorem Ret.mono {P : Program} {f : FuncId} {args : Array Value} {w : World} {φ ψ : Value → World → Prop} (h : Calls P f args w (Ret φ)) (hi : ∀ v w', φ v w' → ψ v w') : Calls P f args w (Ret ψ) :=
  h.mono fun e w' r => by cases e <;> first | exact hi _ _ r | exact r
theorem enter {P : Program} {f : FuncId} {fn : Func} {c : Code} {l : List Value} {w : World} {φ : Value → World → Prop} {n : Nat} (r : Env → Value)
    (hf : P.funcs[f]? = some fn) (hb : fn.body = some c) (hn : fn.ntmps = n) (hl : Nat.ble l.length n = true)
    (hr : ∀ a : Act, (results fn a.tmps).run P = fun w => .ok (r (envOf a)) w)
    (h : cw P n c (fin r φ) (argEnv l) w) : Calls P f l.toArray w (Ret φ) := by
  have hl' : l.length ≤ n := Nat.le_of_ble_eq_true hl
  refine calls_of_wp hf hb ?_
  subst hn
  have he : envOf { tmps := l.toArray ++ Array.replicate (fn.ntmps - l.toArray.size) undef, defers := [] } = argEnv l := by
    funext t
    simp only [envOf, argEnv, Array.getD_eq_getD_getElem?, Array.getElem?_append, List.size_toArray, List.getElem?_toArray, List.getD_eq_getElem?_getD]
    by_cases ht : t < l.length
    · rw [if_pos ht]
    · rw [if_neg ht, List.getElem?_eq_none (by omega)]
      simp [Array.getElem?_replicate]
      split <;> rfl
  refine wp_mono (h _ rfl (by simp; omega) he) ?_
  rintro e a w ⟨h1, h2, h3⟩
  cases e with
  | normal => exact ⟨h1, _, by rw [hr], h3⟩
  | ret => exact ⟨h1, _, by rw [hr], h3⟩
  | _ => exact h3.elim
theorem res0 {P : Program} {fn : Func} (h : fn.results = #[]) (a : Act) : (results fn a.tmps).run P = fun w => .ok ((fun _ => .tuple #[]) (envOf a)) w := by
  funext w; exact results_none h _ _ _
theorem res1 {P : Program} {fn : Func} {t : Tmp} (h : fn.results = #[.tmp t]) (a : Act) : (results fn a.tmps).run P = fun w => .ok ((fun ρ => ρ t) (envOf a)) w := by
  funext w; exact results_tmp h _ _ _
theorem res2 {P : Program} {fn : Func} {t u : Tmp} (h : fn.results = #[.tmp t, .tmp u]) (a : Act) : (results fn a.tmps).run P = fun w => .ok ((fun ρ => .tuple #[ρ t, ρ u]) (envOf a)) w := by
  funext w; exact results_tmp2 h _ _ _
theorem res3 {P : Program} {fn : Func} {t u s : Tmp} (h : fn.results = #[.tmp t, .tmp u, .tmp s]) (a : Act) : (results fn a.tmps).run P = fun w => .ok ((fun ρ => .tuple #[ρ t, ρ u, ρ s]) (envOf a)) w := by
  funext w; simp [results, h, envOf]

/-! ### Closed facts on types -/
def scalarB (P : Program) (t : TypeId) : Bool :=
  match P.underlying t, P.info? t with
  | some (.struct _), _ | some (.array ..), _ | none, _ => false
  | some _, some i => i.size == 1
  | some _, none => false
def aggB (P : Program) (t : TypeId) (n : Nat) : Bool :=
  match P.underlying t, P.info? t with
  | some (.struct _), some i | some (.array ..), some i => i.size == n
  | _, _ => false
def fieldOff (P : Program) (s : TypeId) (f : Nat) : Option Nat :=
  match P.underlying s with
  | some (.struct fs) => (match fs[f]? with
    | some fd => (match P.info? fd.type with | some i => if i.size = 0 then none else some fd.offset | none => none)
    | none => none)
  | _ => none
def fieldTy (P : Program) (s : TypeId) (f : Nat) : Option (TypeId × Nat) :=
  match P.underlying s with
  | some (.struct fs) => (fs[f]?).map fun fd => (fd.type, fd.offset)
  | _ => none
def zeroOf (P : Program) (t : TypeId) : Option (Array Value) := ((P.info? t).bind (·.zero)).map (·.cells)
def sizeB (P : Program) (t : TypeId) (n : Nat) : Bool := (P.info? t).any (·.size == n)

section runs
variable {P : Program} {w : World}
theorem run_isAgg_of {t : TypeId} {b : Bool} (h : (match P.underlying t with | some (.struct _) | some (.array ..) => some true | some _ => some false | none => none) = some b) : (isAgg t).run P w = .ok b w := by
  unfold isAgg
  cases hu : P.underlying t with
  | none => simp [hu] at h
  | some d =>
    simp only [hu] at h
    simp only [Sem.run_bind, run_underlying hu, Result.andThen_ok]
    cases d <;> simp_all
theorem run_isAgg_scalar {t : TypeId} (h : scalarB P t = true) : (isAgg t).run P w = .ok false w := by
  refine run_isAgg_of ?_
  unfold scalarB at h
  cases hu : P.underlying t with
  | none => simp [hu] at h
  | some d => cases d <;> simp_all
theorem run_isAgg_agg {t : TypeId} {n : Nat} (h : aggB P t n = true) : (isAgg t).run P w = .ok true w := by
  refine run_isAgg_of ?_
  unfold aggB at h
  cases hu : P.underlying t with
  | none => simp [hu] at h
  | some d => cases hi : P.info? t <;> cases d <;> simp_all
theorem run_sizeOf {t : TypeId} {n : Nat} (h : sizeB P t n = true) : (sizeOf t).run P w = .ok n w := by
  unfold sizeB at h
  unfold sizeOf typeInfo
  cases hi : P.info? t with
  | none => simp [hi] at h
  | some i => simp [hi] at h; simp [hi, h]
theorem size_of_scalar {t : TypeId} (h : scalarB P t = true) : sizeB P t 1 = true := by
  unfold scalarB at h; unfold sizeB
  cases hu : P.underlying t with
  | none => simp [hu] at h
  | some d => cases hi : P.info? t <;> cases d <;> simp_all
theorem size_of_agg {t : TypeId} {n : Nat} (h : aggB P t n = true) : sizeB P t n = true := by
  unfold aggB at h; unfold sizeB
  cases hu : P.underlying t with
  | none => simp [hu] at h
  | some d => cases hi : P.info? t <;> cases d <;> simp_all
theorem run_zeroValue {t : TypeId} {z : Value} (h : (P.info? t).bind (·.zero) = some z) : (zeroValue t).run P w = .ok z w := by
  unfold zeroValue typeInfo
  cases hi : P.info? t with
  | none => simp [hi] at h
  | some i => simp [hi] at h; simp [hi, h]
theorem run_loadVar_scalar {t : TypeId} {a : Addr} {v : Value} (h : scalarB P t = true) (hc : w.cell? a = some v) : (loadVar t a).run P w = .ok v w := by
  unfold loadVar
  simp [run_isAgg_scalar h, hc]
theorem run_loadVar_agg {t : TypeId} {n : Nat} {a : Addr} {cs : List Value} (h : aggB P t n = true) (hn : cs.length = n) (hc : ∀ j v, cs[j]? = some v → w.cell? (a.add j) = some v) : (loadVar t a).run P w = .ok (.agg cs.toArray) w := by
  unfold loadVar
  subst hn
  simp [run_isAgg_agg h, run_sizeOf (size_of_agg h), run_loadCells_list w a cs hc]
theorem cell_at {b o : Nat} {cs : List Value} {T : TypeId} {fr : Nat × Nat} (h : w.heap[b]? = some (.cells cs.toArray T fr)) : w.cell? ⟨b, o, none⟩ = cs[o]? := by
  simp [World.cell?, h]
/-- The world behind a store of cells at a place. -/
def putAt (w : World) (b o : Nat) (vs : List Value) : World := w.setCells b o vs
theorem heap_setCells : ∀ (vs : List Value) (o : Nat) (w : World) (b : Nat) (cs : List Value) (T : TypeId) (fr : Nat × Nat), w.heap[b]? = some (.cells cs.toArray T fr) → o + vs.length ≤ cs.length →
    (w.setCells b o vs).heap[b]? = some (.cells (cs.take o ++ vs ++ cs.drop (o + vs.length)).toArray T fr) ∧ Fr [b] w (w.setCells b o vs)
  | [], o, w, b, cs, T, fr, h, hl => ⟨by simp [World.setCells, h], Fr.refl _ _⟩
  | v :: r, o, w, b, cs, T, fr, h, hl => by
    have h1 : (w.setCell ⟨b, o, none⟩ v).heap[b]? = some (.cells (cs.set o v).toArray T fr) := by
      simp [World.setCell, Array.getElem?_modify, h]
    have f1 : Fr [b] w (w.setCell ⟨b, o, none⟩ v) := ⟨rfl, rfl, rfl, by simp, fun k _ hk => by
      simp only [World.setCell, Array.getElem?_modify]
      rw [if_neg (by simp at hk; omega)]⟩
    obtain ⟨h2, f2⟩ := heap_setCells r (o + 1) (w.setCell ⟨b, o, none⟩ v) b (cs.set o v) T fr h1 (by simp at hl ⊢; omega)
    refine ⟨?_, f1.trans f2⟩
    rw [World.setCells, h2]
    congr 3
    simp only [List.length_cons] at hl ⊢
    apply List.ext_getElem?
    intro j
    simp only [List.getElem?_append, List.length_append, List.length_take, List.length_set, List.getElem?_take, List.getElem?_drop, List.getElem?_set, List.length_cons]
    by_cases hj : j < o
    · have e1 : j < min (o + 1) cs.length + r.length := by omega
      have e2 : j < min (o + 1) cs.length := by omega
      have e3 : j < min o cs.length + (r.length + 1) := by omega
      have e4 : j < min o cs.length := by omega
      simp only [e1, e2, e3, e4, if_true]
      rw [if_pos (by omega), if_neg (by omega), if_pos (by omega)]
    · by_cases hj' : j = o
      · subst hj'
        have e1 : j < min (j + 1) cs.length + r.length := by omega
        have e2 : j < min (j + 1) cs.length := by omega
        have e3 : j < min j cs.length + (r.length + 1) := by omega
        have e4 : ¬ j < min j cs.length := by omega
        have e5 : j - min j cs.length = 0 := by omega
        simp only [e1, e2, e3, e4, e5, if_true, if_false]
        simp; omega
      · by_cases hj2 : j < o + (r.length + 1)
        · have e1 : j < min (o + 1) cs.length + r.length := by omega
          have e2 : ¬ j < min (o + 1) cs.length := by omega
          have e3 : j < min o cs.length + (r.length + 1) := by omega
          have e4 : ¬ j < min o cs.length := by omega
          have e5 : j - min o cs.length = (j - min (o + 1) cs.length) + 1 := by omega
          simp only [e1, e2, e3, e4, e5, if_true, if_false, List.getElem?_cons_succ]
        · have e1 : ¬ j < min (o + 1) cs.length + r.length := by omega
          have e3 : ¬ j < min o cs.length + (r.length + 1) := by omega
          have e6 : o + 1 + r.length + (j - (min (o + 1) cs.length + r.length)) = o + (r.length + 1) + (j - (min o cs.length + (r.length + 1))) := by omega
          simp only [e1, e3, if_false]
          rw [e6, if_neg (by omega)]
theorem run_storeCells_at' {b o f1 f2 : Nat} {cs : List Value} {T : TypeId} (vs : List Value) (h : w.heap[b]? = some (.cells cs.toArray T (f1, f2))) (hl : o + vs.length ≤ cs.length) (hf : f2 ≤ o ∨ o + vs.length ≤ f1) (h1 : ∀ v ∈ vs, v.oneCell' = true) :
    (storeCells ⟨b, o, none⟩ vs).run P w = .ok () (w.setCells b o vs) := by
  have := run_storeCells_cells (P := P) b o vs 0 w (fun j hj => by rw [cell_at h]; simp; omega) (fun j hj => by
    simp only [World.frozen?, h]
    simp; omega) h1
  simpa using this
theorem run_storeVar_scalar {t : TypeId} {b o f1 f2 : Nat} {cs : List Value} {T : TypeId} {v : Value} (hs : scalarB P t = true) (h : w.heap[b]? = some (.cells cs.toArray T (f1, f2))) (hl : o < cs.length) (hf : f2 ≤ o ∨ o < f1) (h1 : v.oneCell' = true) :
    (storeVar t ⟨b, o, none⟩ v).run P w = .ok () (w.setCells b o [v]) := by
  have hv : v.cells = #[v] := by cases v <;> first | rfl | cases h1
  unfold storeVar
  simp only [hv, Sem.run_bind, run_sizeOf (size_of_scalar hs), Result.andThen_ok]
  simp only [List.size_toArray, List.length_singleton, ne_eq, not_true_eq_false, if_false]
  exact run_storeCells_at' [v] h (by simp; omega) (by simp; omega) (by simpa using h1)
theorem run_storeVar_agg {t : TypeId} {n b o f1 f2 : Nat} {cs vs : List Value} {T : TypeId} (hs : aggB P t n = true) (hn : vs.length = n) (h : w.heap[b]? = some (.cells cs.toArray T (f1, f2))) (hl : o + n ≤ cs.length) (hf : f2 ≤ o ∨ o + n ≤ f1) (h1 : ∀ v ∈ vs, v.oneCell' = true) :
    (storeVar t ⟨b, o, none⟩ (.agg vs.toArray)).run P w = .ok () (w.setCells b o vs) := by
  unfold storeVar
  subst hn
  simp only [Value.cells, Sem.run_bind, run_sizeOf (size_of_agg hs), Result.andThen_ok]
  simp only [List.size_toArray, ne_eq, not_true_eq_false, if_false]
  exact run_storeCells_at' vs h hl hf h1
end runs

end Go.Proofs.YtgmkjndmjnbahaaDoor.X
