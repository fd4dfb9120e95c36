/- Arrays of numbers compared. -/
import Derived.Test.YtdoiddkogigppaaEqAgg
namespace Go.Proofs.Ytdoiddkogigppaa.X
open Go
set_option linter.unusedVariables false
set_option linter.unusedSimpArgs false
theorem run_eq_ints {P : Program} {w : World} {t e : TypeId} {k : IntKind} {n : Nat} {xs1 xs2 : List Int} (hu : P.underlying t = some (.array n e)) (he : P.underlying e = some (.int k)) (hs : sizeB P e 1 = true) (hsc : scalarB P e = true) (ha : xs1.length = n) (hb : xs2.length = n) :
    (Op.equal t (.agg (xs1.map (Value.int k)).toArray) (.agg (xs2.map (Value.int k)).toArray)).run P w = .ok (decide (xs1 = xs2)) w := by
  unfold Op.equal
  rw [show Op.maxDepth = 9998 + 1 + 1 from rfl, Op.equalIn]
  have h1 : ∀ (xs : Array Value) (i : Nat) (v : Value), xs[i]? = some v → (part e xs i).run P w = .ok v w := fun xs i v h => by
    simp [part, run_isAgg_scalar hsc, h]
  have hg : ∀ (l : List Int) (i : Nat) (h : i < l.length), (l.map (Value.int k)).toArray[i]? = some (.int k l[i]) := fun l i h => by simp [h]
  simp only [Sem.run_bind, run_underlying hu, Result.andThen_ok, run_sizeOf hs, Std.Legacy.Range.forIn_eq_forIn_range', Std.Legacy.Range.size]
  simp only [Nat.sub_zero, Nat.add_sub_cancel, Nat.div_one]
  have hP : ∃ s, List.range' 0 n 1 = List.range' s (List.range' 0 n 1).length 1 ∧ s + (List.range' 0 n 1).length = n ∧ xs1.take s = xs2.take s := ⟨0, by simp, by simp, by simp⟩
  generalize List.range' 0 n 1 = l at hP ⊢
  induction l with
  | nil =>
    obtain ⟨s, h2, h3, h4⟩ := hP
    have : xs1 = xs2 := by
      simp at h3
      rw [List.take_of_length_le (by omega), List.take_of_length_le (by omega)] at h4; exact h4
    simp [this]
  | cons i l ih =>
    obtain ⟨s, h2, h3, h4⟩ := hP
    simp only [List.length_cons, List.range'_succ, List.cons.injEq] at h2 h3
    obtain ⟨rfl, h2⟩ := h2
    have hsa : i < xs1.length := by omega
    have hsb : i < xs2.length := by omega
    simp only [List.forIn_cons, Sem.run_bind, Nat.mul_one, h1 _ _ _ (hg xs1 i hsa), h1 _ _ _ (hg xs2 i hsb), Result.andThen_ok, run_equalIn_int w _ e k k _ _ he]
    by_cases hc : xs1[i] = xs2[i]
    · have ht' : xs1.take (i + 1) = xs2.take (i + 1) := by
        rw [List.take_add_one, List.take_add_one, h4]; simp [hsa, hsb, hc]
      have := ih ⟨i + 1, by simpa using h2, by omega, ht'⟩
      simp only [Nat.mul_one] at this
      simpa [hc] using this
    · have hne : xs1 ≠ xs2 := fun e => hc (by subst e; rfl)
      simp [hc, hne]
section steps
variable {P : Program} {n : Nat} {ops : Array Oper} {Q : Post} {rest : List Oper} {ρ : Env} {w : World} {ty : TypeId} {pos : String} {af : Array Edge} {d : Nat}
theorem r_neqAr {t u e : TypeId} {x y : Operand} {k : IntKind} {m : Nat} {xs1 xs2 : List Int} {dd : Option Nat} {gg : Option (Nat × Bool)} (hx : ev ρ x = .agg (xs1.map (Value.int k)).toArray) (hy : ev ρ y = .agg (xs2.map (Value.int k)).toArray) (hg : P.eqGuardType P.depth t = false) (hu : P.underlying t = some (.array m e)) (he : P.underlying e = some (.int k)) (hs : sizeB P e 1 = true) (hsc : scalarB P e = true) (ha : xs1.length = m) (hb : xs2.length = m) : (execOp (ev ρ) ⟨dd, .binOp .neq t x y u, ty, pos, af, gg⟩).run P w = .ok (.value (.bool (decide (xs1 ≠ xs2)))) w := by
  have h := run_eqGuard_agg (P := P) w .neq t x y (xs1.map (Value.int k)).toArray (xs2.map (Value.int k)).toArray hg
  have h2 := run_eq_ints (w := w) hu he hs hsc ha hb
  have e2 : (binOp .neq t (.agg (xs1.map (Value.int k)).toArray) (.agg (xs2.map (Value.int k)).toArray)).run P w = .ok (.bool (decide (xs1 ≠ xs2))) w := by
    simp only [binOp]
    simp [h2]
  simp only [execOp, hx, hy, Sem.run_bind, h, Result.andThen_ok, e2, Sem.run_pure, Sem.run_map]
theorem neqAr {t u e : TypeId} {x y : Operand} {k : IntKind} {m : Nat} {xs1 xs2 : List Int} (hx : ev ρ x = .agg (xs1.map (Value.int k)).toArray) (hy : ev ρ y = .agg (xs2.map (Value.int k)).toArray) (hg : P.eqGuardType P.depth t = false) (hu : P.underlying t = some (.array m e)) (he : P.underlying e = some (.int k)) (hs : sizeB P e 1 = true) (hsc : scalarB P e = true) (ha : xs1.length = m) (hb : xs2.length = m) (hn : Nat.blt d n = true) (kk : wl P n ops Q rest (upd ρ d (.bool (decide (xs1 ≠ xs2)))) w) : wl P n ops Q (⟨some d, .binOp .neq t x y u, ty, pos, af, none⟩ :: rest) ρ w :=
  val rfl rfl hn (r_neqAr hx hy hg hu he hs hsc ha hb) kk
theorem r_eqlAr {t u e : TypeId} {x y : Operand} {k : IntKind} {m : Nat} {xs1 xs2 : List Int} {dd : Option Nat} {gg : Option (Nat × Bool)} (hx : ev ρ x = .agg (xs1.map (Value.int k)).toArray) (hy : ev ρ y = .agg (xs2.map (Value.int k)).toArray) (hg : P.eqGuardType P.depth t = false) (hu : P.underlying t = some (.array m e)) (he : P.underlying e = some (.int k)) (hs : sizeB P e 1 = true) (hsc : scalarB P e = true) (ha : xs1.length = m) (hb : xs2.length = m) : (execOp (ev ρ) ⟨dd, .binOp .eql t x y u, ty, pos, af, gg⟩).run P w = .ok (.value (.bool (decide (xs1 = xs2)))) w := by
  have h := run_eqGuard_agg (P := P) w .eql t x y (xs1.map (Value.int k)).toArray (xs2.map (Value.int k)).toArray hg
  have h2 := run_eq_ints (w := w) hu he hs hsc ha hb
  have e2 : (binOp .eql t (.agg (xs1.map (Value.int k)).toArray) (.agg (xs2.map (Value.int k)).toArray)).run P w = .ok (.bool (decide (xs1 = xs2))) w := by
    simp only [binOp]
    simp [h2]
  simp only [execOp, hx, hy, Sem.run_bind, h, Result.andThen_ok, e2, Sem.run_pure, Sem.run_map]
theorem eqlAr {t u e : TypeId} {x y : Operand} {k : IntKind} {m : Nat} {xs1 xs2 : List Int} (hx : ev ρ x = .agg (xs1.map (Value.int k)).toArray) (hy : ev ρ y = .agg (xs2.map (Value.int k)).toArray) (hg : P.eqGuardType P.depth t = false) (hu : P.underlying t = some (.array m e)) (he : P.underlying e = some (.int k)) (hs : sizeB P e 1 = true) (hsc : scalarB P e = true) (ha : xs1.length = m) (hb : xs2.length = m) (hn : Nat.blt d n = true) (kk : wl P n ops Q rest (upd ρ d (.bool (decide (xs1 = xs2)))) w) : wl P n ops Q (⟨some d, .binOp .eql t x y u, ty, pos, af, none⟩ :: rest) ρ w :=
  val rfl rfl hn (r_eqlAr hx hy hg hu he hs hsc ha hb) kk
end steps
end Go.Proofs.Ytdoiddkogigppaa.X
