/- The laws of single operations: a method's value, its receiver's check, a call of it. -/
import Derived.Test.YtgmkjndmjnbahaaSteps7
import Derived.Test.YtgmkjndmjnbahaaFatPure
import Derived.Test.YtgmkjndmjnbahaaPtrRow
import Derived.Test.YtgmkjndmjnbahaaFrame
namespace Go.Proofs.Ytgmkjndmjnbahaa.X
set_option linter.unusedVariables false
open Go Go.RowKit
theorem rowU {w : World} {a : Option Addr} {len cap : Nat} {zs : List Int} (h : IsRow .u32 w a len cap zs) : len ≤ cap ∧ cap ≤ 9223372036854775807 ∧ (∀ i, i < len → ∃ ad, a = some ad ∧ w.cell? (ad.add i) = some (.int .u32 (zs.getD i 0))) := by
  rcases h with ⟨rfl, rfl, rfl, rfl⟩ | ⟨x, rfl, h1, h2, h3, h4, h5⟩
  · exact ⟨Nat.le_refl _, by omega, fun i hi => by omega⟩
  · unfold maxLen at h2
    exact ⟨h1, by omega, fun i hi => ⟨x, rfl, h4 i (by omega)⟩⟩
theorem clR_snoc (k : IntKind) (i : Nat) (f : Nat → Int) : clR k (i + 1) f = clR k i f ++ [.int k (f i)] := by
  unfold clR; rw [List.range_succ, List.map_append]; rfl
theorem gI_idem (f : Nat → Int) (n : Nat) : gI (gI f n) n = gI f n := by
  funext j
  unfold gI
  by_cases h : 2 ≤ j ∧ j < n
  · rw [if_pos h, if_pos h]
  · rw [if_neg h, if_neg h]
/-- The values that are laid: 1, 2, and those that came in, masked. -/
def vF (zs : List Int) (mk : Int) (j : Nat) : Int := if j = 0 then 1 else if j = 1 then 2 else bits .and .u32 (zs.getD (j - 2) 0) mk
theorem vF_two (zs : List Int) (mk : Int) : clR .u32 2 (vF zs mk) = [.int .u32 1, .int .u32 2] := rfl
theorem vF_next (zs : List Int) (mk : Int) (i : Nat) : vF zs mk (i + 2) = bits .and .u32 (zs.getD i 0) mk := by
  unfold vF; rw [if_neg (by omega), if_neg (by omega), show i + 2 - 2 = i by omega]
theorem vF_rng (zs : List Int) {mk : Int} {k : Nat} (hm : (BitVec.ofInt 32 mk).toNat = 2 ^ k - 1 ∧ 2 ^ k - 1 ≤ 4294967295 ∧ mk = ((2 ^ k - 1 : Nat) : Int)) {j : Nat} (hj : 2 ≤ j) : 0 ≤ vF zs mk j ∧ vF zs mk j ≤ mk := by
  unfold vF; rw [if_neg (by omega), if_neg (by omega)]
  exact mask_rng32 _ k mk hm
theorem gI_rng {f : Nat → Int} {n : Nat} {m : Int} (h : ∀ i, 2 ≤ i → i < n → 0 ≤ f i ∧ f i ≤ m) : ∀ i, 2 ≤ i → i < n → 0 ≤ gI f n i ∧ gI f n i ≤ m := fun i h1 h2 => by
  rw [gI_at ⟨h1, h2⟩]; exact h i h1 h2
section steps
variable {P : Program} {n : Nat} {ops : Array Oper} {Q : Post} {rest : List Oper} {ρ : Env} {w : World} {ty : TypeId} {pos : String} {af : Array Edge} {d : Nat}
theorem r_mkM {fn : Fn} {fs : List Operand} {dd : Option Nat} {gg : Option (Nat × Bool)} (vs : List Value) (hv : fs.map (ev ρ) = vs) : (execOp (ev ρ) ⟨dd, .makeFunc fn fs.toArray #[], ty, pos, af, gg⟩).run P w = .ok (.value (.func fn vs.toArray #[])) w := by
  subst hv; simp [execOp, Instr.makeFunc]
theorem mkM {fn : Fn} {fs : List Operand} (vs : List Value) (hv : fs.map (ev ρ) = vs) (hn : Nat.blt d n = true) (k : wl P n ops Q rest (upd ρ d (.func fn vs.toArray #[])) w) : wl P n ops Q (⟨some d, .makeFunc fn fs.toArray #[], ty, pos, af, none⟩ :: rest) ρ w :=
  val rfl rfl hn (r_mkM vs hv) k
theorem r_ncm {x : Operand} {name : String} {t : TypeId} {v : Value} {dd : Option Nat} {gg : Option (Nat × Bool)} (hx : ev ρ x = .func (.method name) #[.iface t v] #[]) (ha : ∀ w, (nilAhead (P.types.size + Made.depth) t v name).run P w = .ok (some false) w) : (execOp (ev ρ) ⟨dd, .nilCheck x, ty, pos, af, gg⟩).run P w = .ok (.value (.func (.method name) #[.iface t v] #[])) w := by
  simp [execOp, hx, ha, run_program]
theorem ncm {x : Operand} {name : String} {t : TypeId} {v : Value} (hx : ev ρ x = .func (.method name) #[.iface t v] #[]) (ha : ∀ w, (nilAhead (P.types.size + Made.depth) t v name).run P w = .ok (some false) w) (hn : Nat.blt d n = true) (k : wl P n ops Q rest (upd ρ d (.func (.method name) #[.iface t v] #[])) w) : wl P n ops Q (⟨some d, .nilCheck x, ty, pos, af, none⟩ :: rest) ρ w :=
  val rfl rfl hn (r_ncm hx ha) k
/-- A method of an interface value that gives nothing. -/
theorem mc0 {recv : Operand} {name : String} {xs : List Operand} {ts : Array TypeId} {t : TypeId} {f : FuncId} {rv : Value} {φ : Value → World → Prop} (hr : ev ρ recv = .iface t rv) (hm : ∀ v w, (method (P.types.size + Made.depth) t v name).run P w = .ok (f, v) w) (hf : callable P f = true) (hc : Calls P f (rv :: xs.map (ev ρ)).toArray w (Ret φ)) (h0 : 0 = 0)
    (k : ∀ v w', φ v w' → wl P n ops Q rest ρ w') : wl P n ops Q (⟨none, .call { callee := .invoke recv name, args := xs.toArray, argTypes := ts }, ty, pos, af, none⟩ :: rest) ρ w :=
  enterC0 rfl rfl (by
    have e2 : #[rv] ++ (xs.map (ev ρ)).toArray = (rv :: xs.map (ev ρ)).toArray := by simp
    have e3 : (callMethod (.iface t rv) name (xs.map (ev ρ)).toArray).run P w = .ok (.enter f (rv :: xs.map (ev ρ)).toArray) w := by
      simp [callMethod, hm, run_callFunc hf, run_program]
    have e4 : List.take xs.length (List.map (ev ρ) xs) = List.map (ev ρ) xs := List.take_of_length_le (by simp)
    simp only [execOp, resolve, invoke, hr, Sem.run_bind, Sem.run_pure, Result.andThen_ok, List.map_toArray]
    simp [e3, e4]) hc k
end steps
end Go.Proofs.Ytgmkjndmjnbahaa.X
