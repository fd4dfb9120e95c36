/- From a walk of a law to what its row asks. -/
import Derived.Test.YtgmkjndmjnbahaaDoorSteps2
namespace Go.Proofs.YtgmkjndmjnbahaaDoor.X
open Go Go.RowKit
theorem law_of {P : Program} {f : FuncId} {args : Array Value} {w : World} (h : Calls P f args w (Ret fun v w' => v = .bool true ∧ Fr [] w w')) : Calls P f args w fun e w' => e = .returned (.bool true) ∧ Below w.heap.size w w' :=
  h.mono fun e w' r => by
    cases e with
    | returned v => exact ⟨by rw [r.1], r.2.below⟩
    | _ => exact r.elim
/-- A slice of numbers that came in. -/
def IsRow (k : IntKind) (w : World) (a : Option Addr) (len cap : Nat) (zs : List Int) : Prop :=
  (a = none ∧ len = 0 ∧ cap = 0 ∧ zs = []) ∨
  ∃ x, a = some x ∧ len ≤ cap ∧ cap ≤ maxLen ∧ zs.length = cap ∧ (∀ i, i < zs.length → w.cell? (x.add i) = some (.int k (zs.getD i 0))) ∧ ∀ n ∈ zs, (Lit.int k n).wf = true
theorem RB.ofRow {w : World} {a : Option Addr} {len cap : Nat} {zs : List Int} (h : IsRow .u8 w a len cap zs) : len ≤ cap ∧ len ≤ 9223372036854775807 ∧ RB w a len ((zs.take len).map b8) := by
  rcases h with ⟨rfl, rfl, rfl, rfl⟩ | ⟨x, rfl, h1, h2, h3, h4, h5⟩
  · exact ⟨Nat.le_refl _, by omega, by simpa using RB.nil w none⟩
  · unfold maxLen at h2
    refine ⟨h1, by omega, by simp; omega, fun i hi => ⟨x, rfl, ?_⟩⟩
    rw [h4 i (by omega)]
    have hi' : i < zs.length := by omega
    have hm : zs[i] ∈ zs := List.getElem_mem hi'
    have hw := h5 _ hm
    have hr : 0 ≤ zs[i] ∧ zs[i] ≤ 255 := by
      simp [Lit.wf, IntKind.min, IntKind.max, IntKind.signed, IntKind.bits] at hw
      omega
    have e : ((zs.take len).map b8).getD i 0 = b8 zs[i] := by
      simp [List.getD_eq_getElem?_getD, hi, hi']
    have e2 : zs.getD i 0 = zs[i] := by simp [List.getD_eq_getElem?_getD, hi']
    rw [e, e2]
    have := u8v_b8 hr
    unfold u8v at this
    rw [this]
theorem lenOf {l : List UInt8} (h : (str l).size ≤ maxLen) : l.length ≤ 9223372036854775807 := by rw [size_str] at h; unfold maxLen at h; omega
theorem wf_u8 {n : Int} (h : (Lit.int .u8 n).wf = true) : 0 ≤ n ∧ n ≤ 255 := by simp [Lit.wf, IntKind.min, IntKind.max, IntKind.signed, IntKind.bits] at h; omega
theorem wf_u16 {n : Int} (h : (Lit.int .u16 n).wf = true) : 0 ≤ n ∧ n ≤ 65535 := by simp [Lit.wf, IntKind.min, IntKind.max, IntKind.signed, IntKind.bits] at h; omega
theorem wf_u32 {n : Int} (h : (Lit.int .u32 n).wf = true) : 0 ≤ n ∧ n ≤ 4294967295 := by simp [Lit.wf, IntKind.min, IntKind.max, IntKind.signed, IntKind.bits] at h; omega
theorem wf_u64 {n : Int} (h : (Lit.int .u64 n).wf = true) : 0 ≤ n ∧ n ≤ 18446744073709551615 := by simp [Lit.wf, IntKind.min, IntKind.max, IntKind.signed, IntKind.bits] at h; omega
theorem wf_i16 {n : Int} (h : (Lit.int .i16 n).wf = true) : -32768 ≤ n ∧ n ≤ 32767 := by simp [Lit.wf, IntKind.min, IntKind.max, IntKind.signed, IntKind.bits] at h; omega
theorem wf_i64 {n : Int} (h : (Lit.int .i64 n).wf = true) : -9223372036854775808 ≤ n ∧ n ≤ 9223372036854775807 := by simp [Lit.wf, IntKind.min, IntKind.max, IntKind.signed, IntKind.bits] at h; omega
end Go.Proofs.YtgmkjndmjnbahaaDoor.X
