/- Pairs of numbers compared. -/
import Derived.Test.YtdoiddkogigppaaSteps4
import Derived.Laws.StructEq
namespace Go.Proofs.Ytdoiddkogigppaa.X
open Go
set_option linter.unusedVariables false
set_option linter.unusedSimpArgs false
theorem run_eq_pair {P : Program} {w : World} {t e : TypeId} {k : IntKind} {a b c d : Int} (hu : P.underlying t = some (.array 2 e)) (he : P.underlying e = some (.int k)) (hs : sizeB P e 1 = true) (hsc : scalarB P e = true) : (Op.equal t (.agg #[.int k a, .int k b]) (.agg #[.int k c, .int k d])).run P w = .ok (a == c && b == d) w := by
  unfold Op.equal
  rw [show Op.maxDepth = 9998 + 1 + 1 from rfl, Op.equalIn]
  have h1 : ∀ (xs : Array Value) (i : Nat) (v : Value), xs[i]? = some v → (part e xs i).run P w = .ok v w := fun xs i v h => by
    simp [part, run_isAgg_scalar hsc, h]
  simp only [Sem.run_bind, run_underlying hu, Result.andThen_ok, run_sizeOf hs, Std.Legacy.Range.forIn_eq_forIn_range', Std.Legacy.Range.size]
  simp [List.range', h1 #[.int k a, .int k b] 0 (.int k a) rfl, h1 #[.int k a, .int k b] 1 (.int k b) rfl, h1 #[.int k c, .int k d] 0 (.int k c) rfl, h1 #[.int k c, .int k d] 1 (.int k d) rfl, run_equalIn_int w _ e k k _ _ he]
  cases h : (a == c) <;> cases h' : (b == d) <;> simp_all
section steps
variable {P : Program} {n : Nat} {ops : Array Oper} {Q : Post} {rest : List Oper} {ρ : Env} {w : World} {ty : TypeId} {pos : String} {af : Array Edge} {d : Nat}
theorem r_neqPr {t u e : TypeId} {x y : Operand} {k : IntKind} {a b c c' : Int} {dd : Option Nat} {gg : Option (Nat × Bool)} (hx : ev ρ x = .agg [.int k a, .int k b].toArray) (hy : ev ρ y = .agg [.int k c, .int k c'].toArray) (hg : P.eqGuardType P.depth t = false) (hu : P.underlying t = some (.array 2 e)) (he : P.underlying e = some (.int k)) (hs : sizeB P e 1 = true) (hsc : scalarB P e = true) : (execOp (ev ρ) ⟨dd, .binOp .neq t x y u, ty, pos, af, gg⟩).run P w = .ok (.value (.bool (decide (¬ (a = c ∧ b = c'))))) w := by
  have h := run_eqGuard_agg (P := P) w .neq t x y #[.int k a, .int k b] #[.int k c, .int k c'] hg
  have h2 := run_eq_pair (w := w) (a := a) (b := b) (c := c) (d := c') hu he hs hsc
  have e2 : (binOp .neq t (.agg #[.int k a, .int k b]) (.agg #[.int k c, .int k c'])).run P w = .ok (.bool (!(a == c && b == c'))) w := by
    simp only [binOp]
    simp [h2]
  have e3 : (!(a == c && b == c')) = decide (¬ (a = c ∧ b = c')) := by
    by_cases h1 : a = c <;> by_cases h2 : b = c' <;> simp [h1, h2]
  rw [e3] at e2
  simp only [execOp, hx, hy, Sem.run_bind, h, Result.andThen_ok, e2, Sem.run_pure, Sem.run_map]
theorem neqPr {t u e : TypeId} {x y : Operand} {k : IntKind} {a b c c' : Int} (hx : ev ρ x = .agg [.int k a, .int k b].toArray) (hy : ev ρ y = .agg [.int k c, .int k c'].toArray) (hg : P.eqGuardType P.depth t = false) (hu : P.underlying t = some (.array 2 e)) (he : P.underlying e = some (.int k)) (hs : sizeB P e 1 = true) (hsc : scalarB P e = true) (hn : Nat.blt d n = true) (kk : wl P n ops Q rest (upd ρ d (.bool (decide (¬ (a = c ∧ b = c'))))) w) : wl P n ops Q (⟨some d, .binOp .neq t x y u, ty, pos, af, none⟩ :: rest) ρ w :=
  val rfl rfl hn (r_neqPr hx hy hg hu he hs hsc) kk
end steps
end Go.Proofs.Ytdoiddkogigppaa.X
