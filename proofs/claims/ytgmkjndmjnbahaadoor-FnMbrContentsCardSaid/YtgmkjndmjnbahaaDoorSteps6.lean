/- The laws of single operations: bytes copied whole. -/
import Derived.Test.YtgmkjndmjnbahaaDoorSteps5
import Derived.Test.YtgmkjndmjnbahaaDoorBytesPure
namespace Go.Proofs.YtgmkjndmjnbahaaDoor.X
set_option linter.unusedVariables false
open Go Go.RowKit
section steps
variable {P : Program} {n : Nat} {ops : Array Oper} {Q : Post} {rest : List Oper} {ρ : Env} {w : World} {ty : TypeId} {pos : String} {af : Array Edge} {d : Nat}
variable {w0 : World} {S : List Nat} {L L' : List Ent}
/-- copy(dst, src) of bytes for which there is room. -/
theorem cpP {t e T : TypeId} {x y : Operand} {b o dl dc sl sc f1 f2 : Nat} {A : Option Addr} {ds bs : List UInt8} (H : SH w0 S w L) (hx : ev ρ x = .slice (some ⟨b, o, none⟩) dl dc) (hy : ev ρ y = .slice A sl sc) (hu : P.underlying t = some (.slice e)) (hs : sizeB P e 1 = true)
    [lk : Look L b (.cells (Bs ds).toArray T (f1, f2))] (hr : RB w A sl bs) (hle : sl ≤ dl) (ho : o + dl ≤ ds.length) (hf : f2 ≤ o ∨ o + dl ≤ f1)
    [tn : Turn L b (.cells (Bs (pAt ds o bs)).toArray T (f1, f2)) L'] (hn : Nat.blt d n = true)
    (kk : ∀ w', SH w0 S w' L' → Fr [b] w w' → (pAt ds o bs).length = ds.length → wl P n ops Q rest (upd ρ d (.int .i64 (sl : Int))) w') : wl P n ops Q (⟨some d, .call { callee := .builtin .copy, args := #[x, y], argTypes := #[t, t] }, ty, pos, af, none⟩ :: rest) ρ w := by
  have hm : min sl dl = sl := Nat.min_eq_left hle
  have he : ds.take o ++ bs.take (min sl dl) ++ ds.drop (o + min sl dl) = pAt ds o bs := by
    rw [hm, List.take_of_length_le (l := bs) (by rw [hr.1]; exact Nat.le_refl _)]
    unfold pAt; rw [hr.1]
  refine cpB (L' := L') (tn := by rw [he]; exact tn) H hx hy hu hs hr ho hf hn (fun w' h1 h2 => ?_)
  rw [hm]; exact kk w' h1 h2 (pAt_len (by rw [hr.1]; omega))
/-- copy(dst, text). -/
theorem cpT {t e T tq : TypeId} {x y : Operand} {b o dl dc f1 f2 : Nat} {ds bs : List UInt8} (H : SH w0 S w L) (hx : ev ρ x = .slice (some ⟨b, o, none⟩) dl dc) (hy : ev ρ y = .string (str bs)) (hu : P.underlying t = some (.slice e)) (hs : sizeB P e 1 = true)
    [lk : Look L b (.cells (Bs ds).toArray T (f1, f2))] (hle : bs.length ≤ dl) (ho : o + dl ≤ ds.length) (hf : f2 ≤ o ∨ o + dl ≤ f1)
    [tn : Turn L b (.cells (Bs (pAt ds o bs)).toArray T (f1, f2)) L'] (hn : Nat.blt d n = true)
    (kk : ∀ w', SH w0 S w' L' → Fr [b] w w' → (pAt ds o bs).length = ds.length → wl P n ops Q rest (upd ρ d (.int .i64 (bs.length : Int))) w') : wl P n ops Q (⟨some d, .call { callee := .builtin .copy, args := #[x, y], argTypes := #[t, tq] }, ty, pos, af, none⟩ :: rest) ρ w := by
  have hL := H.look (b := b) (o := .cells (Bs ds).toArray T (f1, f2))
  obtain ⟨h2, f2'⟩ := heap_setCells (Bs bs) o w b (Bs ds) T (f1, f2) hL (by simp; omega)
  have hst := run_storeCells_at' (P := P) (o := o) (Bs bs) hL (by simp; omega) (by simp; omega) (by intro v hv; obtain ⟨_, _, rfl⟩ := List.mem_map.1 hv; rfl)
  have hex : List.take bs.length (List.map (fun b : UInt8 => Value.int .u8 (b.toNat : Int)) (str bs).data.toList) = Bs bs := by
    rw [List.take_of_length_le (by simp [str])]
    rfl
  refine val rfl rfl hn (w' := w.setCells b o (Bs bs)) (v := .int .i64 (bs.length : Int)) ?_ (kk _ (H.put (b := b) (o' := .cells (Bs (pAt ds o bs)).toArray T (f1, f2)) f2' ?_) f2' (pAt_len (by omega)))
  · have hmin : Nat.min bs.length dl = bs.length := Nat.min_eq_left hle
    simp only [execOp, resolve, invoke, builtin, Sem.run_bind, Sem.run_pure, Result.andThen_ok, List.map_toArray, List.map_cons, List.map_nil, hx, hy]
    simp [Builtin.copy_, run_underlying hu, Builtin.lenOf, run_sizeOf hs, hmin, Builtin.firstCells, hex, hst, goInt]
  · rw [h2]; simp [Bs, pAt]
end steps
end Go.Proofs.YtgmkjndmjnbahaaDoor.X
