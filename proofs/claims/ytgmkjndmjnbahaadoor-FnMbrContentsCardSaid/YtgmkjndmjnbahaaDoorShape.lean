/- What a value that was laid looks like: its cells, by its type's shape. -/
import Derived.Test.YtgmkjndmjnbahaaDoorSteps2
import Derived.OpenShut
import Derived.ChangeArms
namespace Go.Proofs.YtgmkjndmjnbahaaDoor.X
open Go
set_option linter.unusedVariables false
mutual
inductive Shp where
  | int (k : IntKind)
  | bool
  | str
  | row (sz : Nat) (s : Shp)
  | ptr (sz : Nat) (s : Shp)
  | agg (tot : Nat) (ps : Prts)
  | any
inductive Prts where
  | nil
  | cons (o n : Nat) (s : Shp) (r : Prts)
end
def mkPrts : List (Nat × Nat × Shp) → Prts
  | [] => .nil
  | p :: r => .cons p.1 p.2.1 p.2.2 (mkPrts r)
def shpOf (P : Program) : Nat → TypeId → Shp
  | 0, _ => .any
  | d + 1, t => match P.underlying t with
    | some .bool => .bool
    | some (.int k) => .int k
    | some .string => .str
    | some (.slice e) => .row (P.cellsOf e) (shpOf P d e)
    | some (.pointer e) => .ptr (P.cellsOf e) (shpOf P d e)
    | some (.struct fs) => .agg (P.cellsOf t) (mkPrts (fs.toList.map fun f => (f.offset, P.cellsOf f.type, shpOf P d f.type)))
    | some (.array n e) => .agg (P.cellsOf t) (mkPrts ((List.range n).map fun i => (i * P.cellsOf e, P.cellsOf e, shpOf P d e)))
    | _ => .any
/-- The cells from an address on. -/
def At (w : World) (a : Addr) (cs : List Value) : Prop := ∀ j v, cs[j]? = some v → w.cell? (a.add j) = some v
mutual
def Is (w : World) : Shp → List Value → Prop
  | .int k, cs => ∃ n, cs = [.int k n] ∧ (Lit.int k n).wf = true
  | .bool, cs => ∃ b, cs = [.bool b]
  | .str, cs => ∃ s, cs = [.string s] ∧ s.size ≤ maxLen
  | .row sz s, cs => cs = [.slice none 0 0] ∨ ∃ a len cap, cs = [.slice (some a) len cap] ∧ len ≤ cap ∧ cap ≤ maxLen ∧ ∀ i, i < cap → ∃ es, es.length = sz ∧ At w (a.add (i * sz)) es ∧ Is w s es
  | .ptr sz s, cs => cs = [.pointer none] ∨ ∃ a es, cs = [.pointer (some a)] ∧ es.length = sz ∧ At w a es ∧ Is w s es
  | .agg tot ps, cs => cs.length = tot ∧ IsAll w ps cs
  | .any, _ => True
def IsAll (w : World) : Prts → List Value → Prop
  | .nil, _ => True
  | .cons o n s r, cs => Is w s ((cs.drop o).take n) ∧ IsAll w r cs
end
theorem IsAll_mk {w : World} {cs : List Value} : ∀ (l : List (Nat × Nat × Shp)), (∀ p ∈ l, Is w p.2.2 ((cs.drop p.1).take p.2.1)) → IsAll w (mkPrts l) cs
  | [], _ => by simp [mkPrts, IsAll]
  | p :: r, h => by
    simp only [mkPrts, IsAll]
    exact ⟨h p (.head _), IsAll_mk r fun q hq => h q (.tail _ hq)⟩
theorem mapM_len {α β : Type} {f : α → Option β} : ∀ {l : List α} {r : List β}, l.mapM f = some r → r.length = l.length
  | [], r, h => by simp at h; simp [h]
  | x :: l, r, h => by
    simp only [List.mapM_cons, Option.bind_eq_bind, Option.pure_def] at h
    cases hx : f x with
    | none => simp [hx] at h
    | some y =>
      cases hl : l.mapM f with
      | none => simp [hx, hl] at h
      | some r' =>
        simp [hx, hl] at h
        subst h
        simp [mapM_len hl]
theorem cells?_at {w : World} {b : Nat} {a : Addr} {n : Nat} {cs : List Value} (h : w.cells? b a n = some cs) : cs.length = n ∧ At w a cs := by
  unfold World.cells? at h
  split at h
  · refine ⟨by rw [mapM_len h]; simp, fun j v hj => ?_⟩
    have hl := mapM_len h
    have hjl : j < n := by
      have := (List.getElem?_eq_some_iff.1 hj).1
      simp at hl; omega
    obtain ⟨q, h1, h2⟩ := mapM_get h j j (by simp [hjl])
    rw [h2] at hj
    obtain rfl := Option.some.inj hj
    exact h1
  · cases h
theorem of_trod {H : Type} {enc : TypeId × Value → H} {P : Program} {w : World} {base : Nat} {held : Bool} : ∀ (d : Nat) (t : TypeId) (fuel : Nat) (cs : List Value) (x : DataW H × List MemPlace), DataW.trod enc P w base (fun _ => true) held fuel t cs = some x → Is w (shpOf P d t) cs := by
  intro d
  induction d with
  | zero => intro t fuel cs x h; simp [shpOf, Is]
  | succ d ih =>
    intro t fuel cs x h
    unfold shpOf
    cases hu : P.underlying t with
    | none => simp [Is]
    | some u =>
      cases u <;> simp only [] <;> try (simp only [Is]; done)
      case bool =>
        obtain ⟨b, rfl, _⟩ := DataW.trod_bool hu h
        exact (by simp [Is])
      case int k =>
        obtain ⟨n, rfl, _, hw⟩ := DataW.trod_int hu h
        simp only [Is]
        exact ⟨n, rfl, hw⟩
      case string =>
        obtain ⟨s, rfl, _, hs⟩ := DataW.trod_string hu h
        simp only [Is]
        exact ⟨s, rfl, hs⟩
      case pointer e =>
        simp only [Is]
        rcases DataW.trod_pointer hu h with ⟨rfl, _⟩ | ⟨a, es, y, n, _, rfl, _, hc, ht⟩
        · exact .inl rfl
        · exact .inr ⟨a, es, rfl, (cells?_at hc).1, (cells?_at hc).2, ih _ _ _ _ ht⟩
      case slice e =>
        simp only [Is]
        rcases DataW.trod_slice hu h with ⟨rfl, _⟩ | ⟨a, len, cap, elems, rest, n, _, rfl, _, hb, hl, hc, hel, h1, h2, _⟩
        · exact .inl rfl
        · refine .inr ⟨a, len, cap, rfl, hl, hc, fun i hi => ?_⟩
          obtain ⟨hr, h2⟩ := h2 rfl
          have : ∃ y, (w.cells? base (a.add (i * P.cellsOf e)) (P.cellsOf e)).bind (DataW.trod enc P w base (fun _ => true) held n e) = some y := by
            by_cases hil : i < len
            · exact ⟨_, (h1 i hil).trans (List.getElem?_eq_getElem (by omega))⟩
            · have := h2 (i - len) (by omega)
              rw [show len + (i - len) = i by omega] at this
              exact ⟨_, this.trans (List.getElem?_eq_getElem (by omega))⟩
          obtain ⟨y, hy⟩ := this
          obtain ⟨es, hes, hy⟩ := Option.bind_eq_some_iff.1 hy
          exact ⟨es, (cells?_at hes).1, (cells?_at hes).2, ih _ _ _ _ hy⟩
      case struct fs =>
        obtain ⟨xs, n, _, _, hl, hxl, hf⟩ := DataW.trod_struct hu h
        simp only [Is]
        refine ⟨hl, IsAll_mk _ fun p hp => ?_⟩
        obtain ⟨f, hfm, rfl⟩ := List.mem_map.1 hp
        obtain ⟨i, hi, hif⟩ := List.getElem_of_mem hfm
        have hif' : fs[i]? = some f := by
          rw [← Array.getElem?_toList, List.getElem?_eq_getElem hi, hif]
        have := hf i f hif'
        have hi' : i < xs.length := by simpa [hxl] using hi
        rw [List.getElem?_eq_getElem hi'] at this
        exact ih _ _ _ _ this
      case array n e =>
        obtain ⟨xs, m, _, _, hl, hxl, hf⟩ := DataW.trod_array hu h
        simp only [Is]
        refine ⟨hl, IsAll_mk _ fun p hp => ?_⟩
        obtain ⟨i, hi, rfl⟩ := List.mem_map.1 hp
        have hi : i < n := by simpa using hi
        have := hf i hi
        rw [List.getElem?_eq_getElem (by omega)] at this
        exact ih _ _ _ _ this
/-- An argument of a struct's or an array's type. -/
theorem okWide_agg {P : Program} {w : World} {r : Reach} {base : Nat} {t : TypeId} {v : Value} (ht : (∃ fs, P.underlying t = some (.struct fs)) ∨ ∃ n e, P.underlying t = some (.array n e)) (h : Value.okWide P w r base t v) : ∃ cs : List Value, v = .agg cs.toArray := by
  unfold Value.okWide at h
  rcases ht with ⟨fs, ht⟩ | ⟨n, e, ht⟩ <;>
  · rw [ht] at h
    obtain ⟨cs, rfl, _⟩ := h
    exact ⟨cs.toList, by simp⟩
theorem open_agg {H : Type} {enc : TypeId × Value → H} {P : Program} {w : World} {r : Reach} {base b0 : Nat} {held : Bool} {t : TypeId} {v : Value} {x : DataW H} {ps : List MemPlace} {s : Shp} (d : Nat) (hs : shpOf P d t = s) (ht : (∃ fs, P.underlying t = some (.struct fs)) ∨ ∃ n e, P.underlying t = some (.array n e)) (hv : Value.okWide P w r b0 t v) (h : DataW.Trod enc P w base (fun _ => true) held t v x ps) :
    ∃ cs : List Value, v = .agg cs.toArray ∧ Is w s cs := by
  obtain ⟨cs, rfl⟩ := okWide_agg ht hv
  obtain ⟨fuel, hf⟩ := h
  exact ⟨cs, rfl, hs ▸ of_trod d t fuel cs _ (by simpa [Value.cells] using hf)⟩
end Go.Proofs.YtgmkjndmjnbahaaDoor.X
