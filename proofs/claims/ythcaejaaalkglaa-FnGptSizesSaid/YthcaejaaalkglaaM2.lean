/- Laws and walks on the road to the statement: Steps4, Runs, Results, MapSteps, Steps5, Join, PtrRow, EqAgg, EqRows, StrSteps, BytesPure, LePure, Crc32Pure, GuidPure. -/
import Derived.Test.YthcaejaaalkglaaM1
import Derived.Laws.AppendOwn
import Derived.WideMake
import Derived.Laws.StructEq
import Derived.Laws.Runes
import Derived.Laws.IdiomStrings
import Derived.Laws.Cover4
/- The laws of single operations: elements of arrays, tables that are written out, appending, slices and pointers against nil. -/
namespace Go.Proofs.Ythcaejaaalkglaa.X
set_option linter.unusedVariables false
open Go Go.RowKit
section steps
variable {P : Program} {n : Nat} {ops : Array Oper} {Q : Post} {rest : List Oper} {ρ : Env} {w : World} {ty : TypeId} {pos : String} {af : Array Edge} {d : Nat}
/-- The element of an array that is a value. -/
theorem ixV {t e : TypeId} {x i : Operand} {cs : List Value} {j : IntKind} {z : Int} {m : Nat} {v : Value} (hx : ev ρ x = .agg cs.toArray) (hi : ev ρ i = .int j z) (hu : P.underlying t = some (.array m e)) (hs : scalarB P e = true) (hsz : sizeB P e 1 = true) (hz : 0 ≤ z ∧ z < m) (hv : cs[z.toNat]? = some v) (hn : Nat.blt d n = true) (kk : wl P n ops Q rest (upd ρ d v) w) : wl P n ops Q (⟨some d, .index t x i, ty, pos, af, none⟩ :: rest) ρ w :=
  val rfl rfl hn (by simp [execOp, hx, hi, Instr.index, asIntOf, run_underlying hu, hz.1, hz.2, run_sizeOf hsz, part, run_isAgg_scalar hs, hv]) kk
/-- .. if the elements are of several cells. -/
theorem ixW {t e : TypeId} {x i : Operand} {cs vs : List Value} {j : IntKind} {z : Int} {m sz : Nat} (hx : ev ρ x = .agg cs.toArray) (hi : ev ρ i = .int j z) (hu : P.underlying t = some (.array m e)) (hs : aggB P e sz = true) (hz : 0 ≤ z ∧ z < m) (hv : (cs.drop (z.toNat * sz)).take sz = vs) (hn : Nat.blt d n = true) (kk : wl P n ops Q rest (upd ρ d (.agg vs.toArray)) w) : wl P n ops Q (⟨some d, .index t x i, ty, pos, af, none⟩ :: rest) ρ w :=
  val rfl rfl hn (by subst hv; simp [execOp, hx, hi, Instr.index, asIntOf, run_underlying hu, hz.1, hz.2, run_sizeOf (size_of_agg hs), part, run_isAgg_agg hs]) kk
/-- An element's address, whatever the slice's. -/
theorem addr_mul (a : Addr) (k : Nat) : (a.add k).block = a.block := by unfold Addr.add; split <;> rfl
theorem iB {t e : TypeId} {x i : Operand} {ad : Addr} {len cap sz : Nat} {j : IntKind} {z : Int} (hx : ev ρ x = .slice (some ad) len cap) (hi : ev ρ i = .int j z) (hu : P.underlying t = some (.slice e)) (hs : sizeB P e sz = true) (hz : 0 ≤ z ∧ z < len) (hn : Nat.blt d n = true) (kk : wl P n ops Q rest (upd ρ d (.pointer (some (ad.add (z.toNat * sz))))) w) : wl P n ops Q (⟨some d, .indexAddr t x i, ty, pos, af, none⟩ :: rest) ρ w :=
  val rfl rfl hn (by simp [execOp, hx, hi, Instr.indexAt, asIntOf, run_underlying hu, hz.1, hz.2, run_sizeOf hs]) kk
theorem iyB {t e : TypeId} {x i : Operand} {ad : Addr} {len sz : Nat} {j : IntKind} {z : Int} (hx : ev ρ x = .pointer (some ad)) (hi : ev ρ i = .int j z) (hu : P.underlying t = some (.array len e)) (hs : sizeB P e sz = true) (hz : 0 ≤ z ∧ z < len) (hn : Nat.blt d n = true) (kk : wl P n ops Q rest (upd ρ d (.pointer (some (ad.add (z.toNat * sz))))) w) : wl P n ops Q (⟨some d, .indexAddr t x i, ty, pos, af, none⟩ :: rest) ρ w :=
  val rfl rfl hn (by simp [execOp, hx, hi, Instr.indexAt, asIntOf, run_underlying hu, hz.1, hz.2, run_sizeOf hs, Instr.sureAddr]) kk
/-- A struct or an array is loaded whose cells are known. -/
theorem lw {t : TypeId} {x : Operand} {ad : Addr} {m : Nat} {vs : List Value} (hx : ev ρ x = .pointer (some ad)) (hs : aggB P t m = true) (hm : vs.length = m) (hc : ∀ j v, vs[j]? = some v → w.cell? (ad.add j) = some v) (hn : Nat.blt d n = true) (kk : wl P n ops Q rest (upd ρ d (.agg vs.toArray)) w) : wl P n ops Q (⟨some d, .load t x, ty, pos, af, none⟩ :: rest) ρ w :=
  val rfl rfl hn (by
    have hl := run_loadVar_agg (P := P) (w := w) (a := ad) hs hm hc
    simp [execOp, hx, Instr.loadAt, Instr.sureAddr, hl]) kk
/-! #### what is built of constants -/
def cval : Operand → Value
  | .const v => v
  | _ => .tuple #[]
def constB : Operand → Bool
  | .const _ => true
  | _ => false
def builtC (P : Program) (t : TypeId) (ps : List (Nat × Operand)) : Option (List Value) :=
  if ps.all (fun p => constB p.2) then (P.built t (ps.map fun p => (p.1, cval p.2))).map (·.toList) else none
theorem buK {t : TypeId} {ps : List (Nat × Operand)} {out : List Value} (hb : builtC P t ps = some out) (hn : Nat.blt d n = true) (kk : wl P n ops Q rest (upd ρ d (.agg out.toArray)) w) : wl P n ops Q (⟨some d, .build t ps.toArray, ty, pos, af, none⟩ :: rest) ρ w :=
  val rfl rfl hn (by
    unfold builtC at hb
    split at hb
    · rename_i ha
      obtain ⟨o, ho, rfl⟩ := Option.map_eq_some_iff.1 hb
      have e : ps.map (fun p => (p.1, ev ρ p.2)) = ps.map fun p => (p.1, cval p.2) := by
        apply List.map_congr_left
        intro p hp
        have := List.all_eq_true.1 ha p hp
        cases hq : p.2 <;> simp [hq, constB] at this
        simp [cval, ev]
      have hr := run_build (P := P) w t (ps.map fun p => (p.1, ev ρ p.2)).toArray o (by rw [e]; simpa using ho)
      simp only [execOp, List.map_toArray]
      simp [hr]
    · cases hb) kk
/-! #### nil -/
theorem run_eqN {t e : TypeId} {A : Option Addr} {l c : Nat} (hu : P.underlying t = some (.slice e)) : (Op.equal t (.slice A l c) (.slice none 0 0)).run P w = .ok A.isNone w := by
  unfold Op.equal
  rw [show Op.maxDepth = 9999 + 1 from rfl, Op.equalIn]
  cases A <;> simp [run_underlying hu]
theorem eqlN {t u e : TypeId} {x : Operand} {A : Option Addr} {l c : Nat} (hx : ev ρ x = .slice A l c) (hu : P.underlying t = some (.slice e)) (hn : Nat.blt d n = true) (kk : wl P n ops Q rest (upd ρ d (.bool A.isNone)) w) : wl P n ops Q (⟨some d, .binOp .eql t x (.const (.slice none 0 0)) u, ty, pos, af, none⟩ :: rest) ρ w :=
  val rfl rfl hn (by
    have e : ev ρ (.const (.slice none 0 0)) = .slice none 0 0 := rfl
    simp only [execOp, hx, e, eqGuard_at_slice, binOp]
    simp [run_eqN hu]) kk
theorem neqN {t u e : TypeId} {x : Operand} {A : Option Addr} {l c : Nat} (hx : ev ρ x = .slice A l c) (hu : P.underlying t = some (.slice e)) (hn : Nat.blt d n = true) (kk : wl P n ops Q rest (upd ρ d (.bool A.isSome)) w) : wl P n ops Q (⟨some d, .binOp .neq t x (.const (.slice none 0 0)) u, ty, pos, af, none⟩ :: rest) ρ w :=
  val rfl rfl hn (by
    have e : ev ρ (.const (.slice none 0 0)) = .slice none 0 0 := rfl
    simp only [execOp, hx, e, eqGuard_at_slice, binOp]
    cases A <;> simp [run_eqN hu]) kk
theorem run_eqP {t e : TypeId} {A : Option Addr} (hu : P.underlying t = some (.pointer e)) : (Op.equal t (.pointer A) (.pointer none)).run P w = .ok A.isNone w := by
  unfold Op.equal
  rw [show Op.maxDepth = 9999 + 1 from rfl, Op.equalIn]
  cases A <;> simp [run_underlying hu]
theorem eqlP {t u e : TypeId} {x : Operand} {A : Option Addr} (hx : ev ρ x = .pointer A) (hu : P.underlying t = some (.pointer e)) (hn : Nat.blt d n = true) (kk : wl P n ops Q rest (upd ρ d (.bool A.isNone)) w) : wl P n ops Q (⟨some d, .binOp .eql t x (.const (.pointer none)) u, ty, pos, af, none⟩ :: rest) ρ w :=
  val rfl rfl hn (by
    have e : ev ρ (.const (.pointer none)) = .pointer none := rfl
    simp only [execOp, hx, e, eqGuard_at_pointer, binOp]
    simp [run_eqP hu]) kk
theorem neqP {t u e : TypeId} {x : Operand} {A : Option Addr} (hx : ev ρ x = .pointer A) (hu : P.underlying t = some (.pointer e)) (hn : Nat.blt d n = true) (kk : wl P n ops Q rest (upd ρ d (.bool A.isSome)) w) : wl P n ops Q (⟨some d, .binOp .neq t x (.const (.pointer none)) u, ty, pos, af, none⟩ :: rest) ρ w :=
  val rfl rfl hn (by
    have e : ev ρ (.const (.pointer none)) = .pointer none := rfl
    simp only [execOp, hx, e, eqGuard_at_pointer, binOp]
    cases A <;> simp [run_eqP hu]) kk
end steps

theorem Agree.self (S : List Nat) (ρ : Env) : Agree S ρ ρ := fun _ _ => rfl
/-- A cut whose code turns the slots of S alone. -/
theorem ctM {P : Program} {n : Nat} {Q : Post} {ρ : Env} {w : World} {α : Type} {x y : Code} (S : List Nat) (V : α → List (Nat × Value)) (J : α → World → Prop)
    (h : cw P n x (thenQ (fun ρ' w' => ∃ z, J z w' ∧ FitsL ρ' (V z) ∧ Agree S ρ ρ') Q) ρ w) (k : ∀ z ρx w, J z w → cw P n y Q (setL (mask ρ ρx S) (V z)) w) : cw P n (.seq x y) Q ρ w := by
  refine ct _ h ?_
  rintro ρ' w' ⟨z, hJ, hf, ha⟩
  rw [fits_eq hf ha]
  exact k z ρ' w' hJ
/-! #### rows that grow -/
/-- What is needed of the elements' type: the zero cells, the bytes. -/
def rowInfo (P : Program) (e : TypeId) : Option (List Value × Nat) :=
  match P.info? e with
  | some i => (match i.zero with
    | some z => if i.size == z.cells.size && decide (0 < i.size) then some (z.cells.toList, i.bytes) else none
    | none => none)
  | none => none
theorem rowInfo_some {P : Program} {e : TypeId} {zs : List Value} {by_ : Nat} (h : rowInfo P e = some (zs, by_)) : ∃ i z, P.info? e = some i ∧ i.zero = some z ∧ z.cells = zs.toArray ∧ i.size = zs.length ∧ i.bytes = by_ ∧ 0 < zs.length := by
  unfold rowInfo at h
  cases hi : P.info? e with
  | none => simp [hi] at h
  | some i =>
    simp only [hi] at h
    cases hz : i.zero with
    | none => simp [hz] at h
    | some z =>
      simp only [hz] at h
      split at h
      · rename_i hc
        simp only [Bool.and_eq_true, beq_iff_eq, decide_eq_true_eq] at hc
        simp only [Option.some.injEq, Prod.mk.injEq] at h
        obtain ⟨rfl, rfl⟩ := h
        exact ⟨i, z, rfl, hz, by simp, by simp [hc.1], rfl, by simp; omega⟩
      · cases h
/-- A slice that is this call's own: of n elements, their cells xs. -/
structure OR (e : TypeId) (sz : Nat) (w0 : World) (S : List Nat) (w : World) (L : List Ent) (A : Option Addr) (n cap : Nat) (xs : List Value) : Prop where
  len : xs.length = n * sz
  sh : SH w0 S w L
  own : (A = none ∧ n = 0 ∧ cap = 0) ∨ ∃ (b : Nat) (cur : List Value), A = some ⟨b, 0, none⟩ ∧ n ≤ cap ∧ cap ≤ maxLen ∧ cur.length = cap * sz ∧ cur.take (n * sz) = xs ∧ SH w0 S w (⟨b, .cells cur.toArray e (0, 0), true⟩ :: L)
theorem OR.nil {e : TypeId} {sz : Nat} {w0 : World} {S : List Nat} {w : World} {L : List Ent} (H : SH w0 S w L) : OR e sz w0 S w L none 0 0 [] := ⟨by simp, H, .inl ⟨rfl, rfl, rfl⟩⟩
theorem OR.made {e : TypeId} {sz : Nat} {w0 : World} {S : List Nat} {w : World} {L : List Ent} {b n cap : Nat} {cur : List Value} (H : SH w0 S w (⟨b, .cells cur.toArray e (0, 0), true⟩ :: L)) (hn : n ≤ cap) (hc : cap ≤ maxLen) (hl : cur.length = cap * sz) : OR e sz w0 S w L (some ⟨b, 0, none⟩) n cap (cur.take (n * sz)) :=
  ⟨by rw [List.length_take, hl]; exact Nat.min_eq_left (Nat.mul_le_mul_right _ hn), H.drop, .inr ⟨b, cur, rfl, hn, hc, hl, rfl, H⟩⟩
theorem SH.swap {w0 w : World} {S : List Nat} {L : List Ent} {x y : Ent} (H : SH w0 S w (x :: y :: L)) : SH w0 S w (y :: x :: L) := by
  obtain ⟨f, g, a, m⟩ := H
  refine ⟨f, fun z hz => g z ?_, ?_, fun z hz => m z ?_⟩
  · simp only [List.mem_cons] at hz ⊢; rcases hz with h | h | h <;> simp [h]
  · rw [List.pairwise_cons] at a
    obtain ⟨a1, a2⟩ := a
    rw [List.pairwise_cons] at a2
    refine List.Pairwise.cons ?_ (List.Pairwise.cons (fun z hz => a1 z (.tail _ hz)) a2.2)
    intro z hz hm
    rcases List.mem_cons.1 hz with rfl | hz
    · exact (a1 y (.head _) (by rw [Bool.or_comm]; exact hm)).symm
    · exact a2.1 z hz hm
  · simp only [List.mem_cons] at hz ⊢; rcases hz with h | h | h <;> simp [h]
theorem cells_look {w : World} {b : Nat} {cs : List Value} {T : TypeId} {fr : Nat × Nat} (h : w.heap[b]? = some (.cells cs.toArray T fr)) : ∀ j u, cs[j]? = some u → ∃ ad, some (⟨b, 0, none⟩ : Addr) = some ad ∧ w.cell? (ad.add j) = some u := fun j u hu => ⟨_, rfl, by rw [Addr.add_lit, cell_at h]; simpa using hu⟩
theorem OR.keep {e : TypeId} {sz : Nat} {w0 : World} {S : List Nat} {w w' : World} {L : List Ent} {A : Option Addr} {n cap : Nat} {xs : List Value} (O : OR e sz w0 S w L A n cap xs) (f : Fr [] w w') : OR e sz w0 S w' L A n cap xs :=
  ⟨O.len, O.sh.keep f, O.own.imp id fun ⟨b, cur, h1, h2, h3, h4, h5, h6⟩ => ⟨b, cur, h1, h2, h3, h4, h5, h6.keep f⟩⟩
theorem OR.new {e : TypeId} {sz : Nat} {w0 : World} {S : List Nat} {w w' : World} {L : List Ent} {A : Option Addr} {n cap b : Nat} {o : Obj} {xs : List Value} (O : OR e sz w0 S w L A n cap xs) (f : Fr [] w w') (hb : w.heap.size ≤ b) (ho : w'.heap[b]? = some o) : OR e sz w0 S w' (⟨b, o, true⟩ :: L) A n cap xs :=
  ⟨O.len, O.sh.new f hb ho, O.own.imp id fun ⟨b', cur, h1, h2, h3, h4, h5, h6⟩ => ⟨b', cur, h1, h2, h3, h4, h5, (h6.new f hb ho).swap⟩⟩
/-- A block beside the own one has been written. -/
theorem OR.put {e : TypeId} {sz : Nat} {w0 : World} {S : List Nat} {w w' : World} {L L' : List Ent} {A : Option Addr} {n cap b : Nat} {o' : Obj} {xs : List Value} (O : OR e sz w0 S w L A n cap xs) [t : Turn L b o' L'] (f : Fr [b] w w') (ho : w'.heap[b]? = some o') : OR e sz w0 S w' L' A n cap xs :=
  ⟨O.len, O.sh.put f ho, O.own.imp id fun ⟨b', cur, h1, h2, h3, h4, h5, h6⟩ => ⟨b', cur, h1, h2, h3, h4, h5, h6.put f ho⟩⟩
theorem OR.drop {e : TypeId} {sz : Nat} {w0 : World} {S : List Nat} {w : World} {L : List Ent} {A : Option Addr} {n cap : Nat} {x : Ent} {xs : List Value} (O : OR e sz w0 S w (x :: L) A n cap xs) : OR e sz w0 S w L A n cap xs :=
  ⟨O.len, O.sh.drop, O.own.imp id fun ⟨b', cur, h1, h2, h3, h4, h5, h6⟩ => ⟨b', cur, h1, h2, h3, h4, h5, h6.swap.drop⟩⟩
theorem OR.cells {e : TypeId} {sz : Nat} {w0 : World} {S : List Nat} {w : World} {L : List Ent} {A : Option Addr} {n cap : Nat} {xs : List Value} (O : OR e sz w0 S w L A n cap xs) : ∀ j u, xs[j]? = some u → ∃ ad, A = some ad ∧ w.cell? (ad.add j) = some u := by
  intro j u hu
  rcases O.own with ⟨rfl, rfl, rfl⟩ | ⟨b, cur, rfl, h2, h3, h4, h5, h6⟩
  · have := O.len
    simp at this
    subst this
    simp at hu
  · refine ⟨_, rfl, ?_⟩
    rw [Addr.add_lit, cell_at h6.look]
    rw [← h5, List.getElem?_take] at hu
    split at hu
    · simpa using hu
    · cases hu
theorem OR.rb {e : TypeId} {w0 : World} {S : List Nat} {w : World} {L : List Ent} {A : Option Addr} {n cap : Nat} {bs : List UInt8} (O : OR e 1 w0 S w L A n cap (Bs bs)) : RB w A n bs := by
  have hl := O.len
  simp only [Bs_length, Nat.mul_one] at hl
  exact ⟨hl, fun i hi => O.cells i _ (Bs_get (by omega))⟩
theorem OR.blk {e : TypeId} {sz : Nat} {w0 : World} {S : List Nat} {w : World} {L : List Ent} {ad : Addr} {n cap : Nat} {xs : List Value} (O : OR e sz w0 S w L (some ad) n cap xs) : ∃ (b : Nat) (cur : List Value), ad = ⟨b, 0, none⟩ ∧ n ≤ cap ∧ cap ≤ maxLen ∧ cur.length = cap * sz ∧ cur.take (n * sz) = xs ∧ SH w0 S w (⟨b, .cells cur.toArray e (0, 0), true⟩ :: L) := by
  rcases O.own with ⟨h, _⟩ | ⟨b, cur, h, k⟩
  · cases h
  · exact ⟨b, cur, Option.some.inj h, k⟩
theorem OR.cap_ge {e : TypeId} {sz : Nat} {w0 : World} {S : List Nat} {w : World} {L : List Ent} {A : Option Addr} {n cap : Nat} {xs : List Value} (O : OR e sz w0 S w L A n cap xs) : n ≤ cap ∧ cap ≤ maxLen := by
  rcases O.own with ⟨_, rfl, rfl⟩ | ⟨_, _, _, h1, h2, _⟩
  · exact ⟨Nat.le_refl _, by decide⟩
  · exact ⟨h1, h2⟩
/-- In this row, of elements of one cell each, all cells are one-cell values. -/
theorem run_append_OR' {P : Program} {t ty e : TypeId} {zs : List Value} {by_ : Nat} (ht : P.underlying t = some (.slice e)) (hi : rowInfo P e = some (zs, by_)) {w0 : World} {S : List Nat} {w : World} {L : List Ent} {A X : Option Addr} {n cap m c : Nat} {xs news : List Value}
    (O : OR e zs.length w0 S w L A n cap xs) (hl : news.length = m * zs.length) (hnews : ∀ j u, news[j]? = some u → ∃ ad, X = some ad ∧ w.cell? (ad.add j) = some u) (h1 : ∀ u ∈ news, u.oneCell' = true) (hm0 : X = none → m = 0)
    (hb : (n + m) * by_ ≤ 140737488355328) (hmax : n + m ≤ maxLen) :
    ∃ A' cap' w', (Builtin.append_ #[t, t] ty #[.slice A n cap, .slice X m c]).run P w = .ok (.slice A' (n + m) cap') w' ∧ OR e zs.length w0 S w' L A' (n + m) cap' (xs ++ news) ∧ (A.isSome = true → A'.isSome = true) := by
  obtain ⟨i, z, hinf, hz, hzc, hsz, hby, hpos⟩ := rowInfo_some hi
  rcases Nat.eq_zero_or_pos m with rfl | hmp
  · have hnil : news = [] := List.eq_nil_of_length_eq_zero (by simpa using hl)
    subst hnil
    refine ⟨A, cap, w, ?_, by simpa using O, id⟩
    have hge := O.cap_ge.1
    have hfc : (Builtin.firstCells i.size 0 (.slice X 0 c)).run P w = .ok #[] w := by
      cases X with
      | none => exact run_firstCells_none w _ _ _ _
      | some ad => exact run_firstCells_some w i.size 0 ad 0 c [] (by simp) (by simp)
    have hfc' : (Builtin.firstCells i.size 0 (.slice X 0 c)).run P w = .ok #[] w := hfc
    cases A <;> simp [Builtin.append_, run_underlying ht, sizeOf, typeInfo, hinf, Builtin.lenOf, hge, hfc, storeCells]
  · obtain ⟨ad, rfl⟩ : ∃ ad, X = some ad := by
      cases X with
      | none => have := hm0 rfl; omega
      | some ad => exact ⟨ad, rfl⟩
    have hnews' : ∀ j u, news[j]? = some u → w.cell? (ad.add j) = some u := fun j u hu => by
      obtain ⟨ad', e', h⟩ := hnews j u hu
      obtain rfl := Option.some.inj e'
      exact h
    have fresh : ∀ old, old < n + m → OR e zs.length w0 S (w.drew.alloc (.cells (xs.toArray ++ news.toArray ++ Builtin.zeroCells z.cells (grownCap w (n + m) old e - (n + m))) e)) L (some ⟨w.heap.size, 0, none⟩) (n + m) (grownCap w (n + m) old e) (xs ++ news) := by
      intro old ho
      have hge := grownCap_ge w (n + m) old e
      have hcm : grownCap w (n + m) old e ≤ maxLen := grownCap_le_maxLen w (n + m) old e hmax
      have hf : Fr [] w (w.drew.alloc (.cells (xs.toArray ++ news.toArray ++ Builtin.zeroCells z.cells (grownCap w (n + m) old e - (n + m))) e)) := (Fr.drew [] w).trans (Fr.alloc w.drew _)
      have hlen : (xs ++ news).length = (n + m) * zs.length := by rw [List.length_append, O.len, hl, Nat.add_mul]
      have hnew := O.sh.new (o := .cells (xs.toArray ++ news.toArray ++ Builtin.zeroCells z.cells (grownCap w (n + m) old e - (n + m))) e) hf (Nat.le_refl _) (heap_alloc_new w.drew _)
      refine ⟨hlen, hnew.drop, .inr ⟨w.heap.size, (xs ++ news ++ (Builtin.zeroCells z.cells (grownCap w (n + m) old e - (n + m))).toList), rfl, hge, hcm, ?_, ?_, ?_⟩⟩
      · have e0 : z.cells.size = zs.length := by rw [hzc, List.size_toArray]
        have e1 : (Builtin.zeroCells z.cells (grownCap w (n + m) old e - (n + m))).toList.length = (grownCap w (n + m) old e - (n + m)) * zs.length := by rw [Array.length_toList, size_zeroCells, e0]
        rw [List.length_append, hlen, e1, ← Nat.add_mul]
        congr 1; omega
      · rw [← hlen]; exact List.take_left
      · have e1 : (xs ++ news ++ (Builtin.zeroCells z.cells (grownCap w (n + m) old e - (n + m))).toList).toArray = xs.toArray ++ news.toArray ++ Builtin.zeroCells z.cells (grownCap w (n + m) old e - (n + m)) := by
          apply Array.ext'; simp
        rw [e1]; exact hnew
    have hmax' := hmax
    unfold maxLen at hmax'
    rcases O.own with ⟨rfl, rfl, rfl⟩ | ⟨b, cur, rfl, hnc, hcm, hcl, htake, Ho⟩
    · have hx : xs = [] := List.eq_nil_of_length_eq_zero (by simpa using O.len)
      subst hx
      have hr := run_append_nil (P := P) w t ty e i z ht hinf hz ad m c news (by rw [hl, hsz]) hnews' hmp (by omega) (by rw [hby]; simp only [Nat.zero_add] at hb; omega)
      have hgr := fresh 0 (by omega)
      simp only [Nat.zero_add, List.nil_append, Array.empty_append] at hgr ⊢
      exact ⟨_, _, _, hr, hgr, fun _ => rfl⟩
    · by_cases hroom : n + m ≤ cap
      · have hcell := Ho.look (b := b)
        have hfit : n * i.size + news.length ≤ cur.toArray.size := by rw [hl, hsz, List.size_toArray, hcl, ← Nat.add_mul]; exact Nat.mul_le_mul_right _ hroom
        have hr := run_append_room (P := P) w t ty e i ht hinf b n cap cur.toArray hcell ad m c news (by rw [hl, hsz]) hnews' h1 hroom hfit
        have hrow := setRow_heap w b cur.toArray (cur.take (n * i.size) ++ news ++ cur.drop (n * i.size + news.length)).toArray e (0, 0) hcell
        have hfr : Fr [b] w (w.setRow b (cur.take (n * i.size) ++ news ++ cur.drop (n * i.size + news.length)).toArray) :=
          ⟨rfl, rfl, rfl, by simp, fun k _ hk => setRow_other w b k _ (fun e => hk (by simp [e]))⟩
        have Hn := Ho.put hfr hrow
        have hlen : (xs ++ news).length = (n + m) * zs.length := by rw [List.length_append, O.len, hl, Nat.add_mul]
        refine ⟨_, _, _, hr, ⟨hlen, Hn.drop, .inr ⟨b, _, rfl, hroom, hcm, ?_, ?_, Hn⟩⟩, id⟩
        · have := hfit
          rw [List.size_toArray] at this
          simp only [List.length_append, List.length_take, List.length_drop]; omega
        · rw [hsz, htake, ← hlen]; exact List.take_left
      · have holds : ∀ j u, xs[j]? = some u → w.cell? ((⟨b, 0, none⟩ : Addr).add j) = some u := fun j u hu => by
          obtain ⟨ad', e', h⟩ := O.cells j u hu
          obtain rfl := Option.some.inj e'
          exact h
        have hr := run_append_grow (P := P) w t ty e i z ht hinf hz ⟨b, 0, none⟩ n cap xs (by rw [O.len, hsz]) holds ad m c news (by rw [hl, hsz]) hnews' (by omega) (by omega) (by rw [hby]; exact growslice_fits (by omega) hb)
        exact ⟨_, _, _, hr, fresh cap (by omega), fun _ => rfl⟩
theorem run_append_OR {P : Program} {t ty e : TypeId} {zs : List Value} {by_ : Nat} (ht : P.underlying t = some (.slice e)) (hi : rowInfo P e = some (zs, by_)) {w0 : World} {S : List Nat} {w : World} {L : List Ent} {A X : Option Addr} {n cap m c : Nat} {xs news : List Value}
    (O : OR e zs.length w0 S w L A n cap xs) (hl : news.length = m * zs.length) (hnews : ∀ j u, news[j]? = some u → ∃ ad, X = some ad ∧ w.cell? (ad.add j) = some u) (h1 : ∀ u ∈ news, u.oneCell' = true) (hm0 : X = none → m = 0)
    (hb : (n + m) * by_ ≤ 140737488355328) (hmax : n + m ≤ maxLen) :
    ∃ A' cap' w', (Builtin.append_ #[t, t] ty #[.slice A n cap, .slice X m c]).run P w = .ok (.slice A' (n + m) cap') w' ∧ OR e zs.length w0 S w' L A' (n + m) cap' (xs ++ news) := by
  obtain ⟨A', cap', w', h1, h2, _⟩ := run_append_OR' (ty := ty) (c := c) ht hi O hl hnews h1 hm0 hb hmax
  exact ⟨A', cap', w', h1, h2⟩
section steps
variable {P : Program} {n : Nat} {ops : Array Oper} {Q : Post} {rest : List Oper} {ρ : Env} {w : World} {ty : TypeId} {pos : String} {af : Array Edge} {d : Nat}
theorem apO {t e : TypeId} {zs : List Value} {by_ : Nat} {w0 : World} {S : List Nat} {L : List Ent} {A X : Option Addr} {k cap m c : Nat} {xs : List Value} {s x : Operand} (news : List Value)
    (O : OR e zs.length w0 S w L A k cap xs) (hs : ev ρ s = .slice A k cap) (hx : ev ρ x = .slice X m c) (hu : P.underlying t = some (.slice e)) (hi : rowInfo P e = some (zs, by_)) (hl : news.length = m * zs.length) (hnews : ∀ j u, news[j]? = some u → ∃ ad, X = some ad ∧ w.cell? (ad.add j) = some u) (h1 : ∀ u ∈ news, u.oneCell' = true) (hm0 : X = none → m = 0)
    (hb : (k + m) * by_ ≤ 140737488355328) (hmax : k + m ≤ maxLen) (hn : Nat.blt d n = true)
    (kk : ∀ A' cap' w', OR e zs.length w0 S w' L A' (k + m) cap' (xs ++ news) → wl P n ops Q rest (upd ρ d (.slice A' (k + m) cap')) w') : wl P n ops Q (⟨some d, .call { callee := .builtin .append, args := #[s, x], argTypes := #[t, t] }, ty, pos, af, none⟩ :: rest) ρ w := by
  obtain ⟨A', cap', w', hr, O'⟩ := run_append_OR (P := P) (ty := ty) (c := c) hu hi O hl hnews h1 hm0 hb hmax
  exact val rfl rfl hn (by simp [execOp, resolve, invoke, builtin, hs, hx, hr]) (kk A' cap' w' O')
theorem apS {t e : TypeId} {zs : List Value} {by_ : Nat} {w0 : World} {S : List Nat} {L : List Ent} {a : Addr} {X : Option Addr} {k cap m c : Nat} {xs : List Value} {s x : Operand} (news : List Value)
    (O : OR e zs.length w0 S w L (some a) k cap xs) (hs : ev ρ s = .slice (some a) k cap) (hx : ev ρ x = .slice X m c) (hu : P.underlying t = some (.slice e)) (hi : rowInfo P e = some (zs, by_)) (hl : news.length = m * zs.length) (hnews : ∀ j u, news[j]? = some u → ∃ ad, X = some ad ∧ w.cell? (ad.add j) = some u) (h1 : ∀ u ∈ news, u.oneCell' = true) (hm0 : X = none → m = 0)
    (hb : (k + m) * by_ ≤ 140737488355328) (hmax : k + m ≤ maxLen) (hn : Nat.blt d n = true)
    (kk : ∀ a' cap' w', OR e zs.length w0 S w' L (some a') (k + m) cap' (xs ++ news) → wl P n ops Q rest (upd ρ d (.slice (some a') (k + m) cap')) w') : wl P n ops Q (⟨some d, .call { callee := .builtin .append, args := #[s, x], argTypes := #[t, t] }, ty, pos, af, none⟩ :: rest) ρ w := by
  obtain ⟨A', cap', w', hr, O', hA⟩ := run_append_OR' (P := P) (ty := ty) (c := c) hu hi O hl hnews h1 hm0 hb hmax
  obtain ⟨a', rfl⟩ := Option.isSome_iff_exists.1 (hA rfl)
  exact val rfl rfl hn (by simp [execOp, resolve, invoke, builtin, hs, hx, hr]) (kk a' cap' w' O')
theorem apB {t e : TypeId} {w0 : World} {S : List Nat} {L : List Ent} {A X : Option Addr} {k cap m c : Nat} {xs bs : List UInt8} {s x : Operand}
    (O : OR e 1 w0 S w L A k cap (Bs xs)) (hs : ev ρ s = .slice A k cap) (hx : ev ρ x = .slice X m c) (hR : RB w X m bs) (hu : P.underlying t = some (.slice e)) (hi : rowInfo P e = some ([.int .u8 0], 1)) (hb : k + m ≤ 140737488355328) (hn : Nat.blt d n = true)
    (kk : ∀ A' cap' w', OR e 1 w0 S w' L A' (k + m) cap' (Bs (xs ++ bs)) → wl P n ops Q rest (upd ρ d (.slice A' (k + m) cap')) w') : wl P n ops Q (⟨some d, .call { callee := .builtin .append, args := #[s, x], argTypes := #[t, t] }, ty, pos, af, none⟩ :: rest) ρ w := by
  refine apO (zs := [.int .u8 0]) (Bs bs) O hs hx hu hi (by simp [hR.1]) (fun j u hu => ?_) (fun u hu => ?_) (fun h0 => ?_) (by omega) (by unfold maxLen; omega) hn (fun A' cap' w' O' => kk A' cap' w' ?_)
  · have hj : j < bs.length := by simpa using (List.getElem?_eq_some_iff.1 hu).1
    rw [Bs_get hj] at hu
    obtain rfl := Option.some.inj hu
    exact hR.2 j (by rw [← hR.1]; exact hj)
  · simp only [Bs, List.mem_map] at hu
    obtain ⟨b, _, rfl⟩ := hu
    rfl
  · rcases Nat.eq_zero_or_pos m with h | h
    · exact h
    · obtain ⟨_, e', _⟩ := hR.2 0 h
      rw [h0] at e'; cases e'
  · have : Bs (xs ++ bs) = Bs xs ++ Bs bs := by simp [Bs]
    rw [this]; exact O'
end steps
end Go.Proofs.Ythcaejaaalkglaa.X
/- What the operations that only look give: for regions whose order is open. (Printed out of Steps and Steps2 by mkruns.py.) -/
namespace Go.Proofs.Ythcaejaaalkglaa.X
set_option linter.unusedVariables false
open Go Go.RowKit
section
variable {P : Program} {ρ : Env} {w : World} {ty : TypeId} {pos : String} {af : Array Edge} {dd : Option Nat} {gg : Option (Nat × Bool)}
section
variable {t u : TypeId} {x y : Operand} {k : IntKind} {a b c : Int}
theorem r_add (hx : ev ρ x = .int k a) (hy : ev ρ y = .int k b) (hc : k.wrap (a + b) = c) : (execOp (ev ρ) ⟨dd, .binOp .add t x y u, ty, pos, af, gg⟩).run P w = .ok (.value ((.int k c))) w := by subst hc; simp [execOp, hx, hy, go_sem]
theorem r_sub (hx : ev ρ x = .int k a) (hy : ev ρ y = .int k b) (hc : k.wrap (a - b) = c) : (execOp (ev ρ) ⟨dd, .binOp .sub t x y u, ty, pos, af, gg⟩).run P w = .ok (.value ((.int k c))) w := by subst hc; simp [execOp, hx, hy, go_sem]
theorem r_mul (hx : ev ρ x = .int k a) (hy : ev ρ y = .int k b) (hc : k.wrap (a * b) = c) : (execOp (ev ρ) ⟨dd, .binOp .mul t x y u, ty, pos, af, gg⟩).run P w = .ok (.value ((.int k c))) w := by subst hc; simp [execOp, hx, hy, go_sem]
theorem r_quo (hx : ev ρ x = .int k a) (hy : ev ρ y = .int k b) (h0 : 0 ≤ a) (hb : 0 < b) (hc : k.wrap (a / b) = c) : (execOp (ev ρ) ⟨dd, .binOp .quo t x y u, ty, pos, af, gg⟩).run P w = .ok (.value ((.int k c))) w := by
    subst hc
    have hb' : ¬ b = 0 := by omega
    simp [execOp, hx, hy, eqGuard_quo, binOp_quo, Op.intDiv, hb', Int.tdiv_eq_ediv_of_nonneg h0]
theorem r_rem (hx : ev ρ x = .int k a) (hy : ev ρ y = .int k b) (h0 : 0 ≤ a) (hb : 0 < b) (hc : a % b = c) : (execOp (ev ρ) ⟨dd, .binOp .rem t x y u, ty, pos, af, gg⟩).run P w = .ok (.value ((.int k c))) w := by
    subst hc
    have hb' : ¬ b = 0 := by omega
    simp [execOp, hx, hy, eqGuard_rem, binOp_rem, Op.intDiv, hb', Int.tmod_eq_emod_of_nonneg h0]
theorem r_band (hx : ev ρ x = .int k a) (hy : ev ρ y = .int k b) (hc : bits .and k a b = c) : (execOp (ev ρ) ⟨dd, .binOp .and t x y u, ty, pos, af, gg⟩).run P w = .ok (.value ((.int k c))) w := by subst hc; simp [execOp, hx, hy, eqGuard_and, binOp_and, intBits_and]
theorem r_bor (hx : ev ρ x = .int k a) (hy : ev ρ y = .int k b) (hc : bits .or k a b = c) : (execOp (ev ρ) ⟨dd, .binOp .or t x y u, ty, pos, af, gg⟩).run P w = .ok (.value ((.int k c))) w := by subst hc; simp [execOp, hx, hy, eqGuard_or, binOp_or, intBits_or]
theorem r_bxor (hx : ev ρ x = .int k a) (hy : ev ρ y = .int k b) (hc : bits .xor k a b = c) : (execOp (ev ρ) ⟨dd, .binOp .xor t x y u, ty, pos, af, gg⟩).run P w = .ok (.value ((.int k c))) w := by subst hc; simp [execOp, hx, hy, eqGuard_xor, binOp_xor, intBits_xor]
theorem r_bandnot (hx : ev ρ x = .int k a) (hy : ev ρ y = .int k b) (hc : bits .andNot k a b = c) : (execOp (ev ρ) ⟨dd, .binOp .andNot t x y u, ty, pos, af, gg⟩).run P w = .ok (.value ((.int k c))) w := by subst hc; simp [execOp, hx, hy, eqGuard_andNot, binOp_andNot, intBits_andNot]
theorem r_shl {yk : IntKind} (hx : ev ρ x = .int k a) (hy : ev ρ y = .int yk b) (h0 : 0 ≤ b) (hc : k.wrap (a * 2 ^ (min b.toNat k.bits)) = c) : (execOp (ev ρ) ⟨dd, .binOp .shl t x y u, ty, pos, af, gg⟩).run P w = .ok (.value ((.int k c))) w := by
    subst hc
    have : ¬ b < 0 := by omega
    simp [execOp, hx, hy, eqGuard_shl, binOp_shl, Op.shift, this]
theorem r_shr {yk : IntKind} (hx : ev ρ x = .int k a) (hy : ev ρ y = .int yk b) (h0 : 0 ≤ b) (hc : a / 2 ^ (min b.toNat k.bits) = c) : (execOp (ev ρ) ⟨dd, .binOp .shr t x y u, ty, pos, af, gg⟩).run P w = .ok (.value ((.int k c))) w := by
    subst hc
    have : ¬ b < 0 := by omega
    have e : a.fdiv (2 ^ (min b.toNat k.bits)) = a / 2 ^ (min b.toNat k.bits) := Int.fdiv_eq_ediv_of_nonneg _ (by exact Int.le_of_lt (Int.pow_pos (by decide)))
    simp [execOp, hx, hy, eqGuard_shr, binOp_shr, Op.shift, this, e]
theorem r_eql (hx : ev ρ x = .int k a) (hy : ev ρ y = .int k b) : (execOp (ev ρ) ⟨dd, .binOp .eql t x y u, ty, pos, af, gg⟩).run P w = .ok (.value ((.bool (decide (a = b))))) w := by simp [execOp, hx, hy, eqGuard_at_int, binOp_eql]; rfl
theorem r_neq (hx : ev ρ x = .int k a) (hy : ev ρ y = .int k b) : (execOp (ev ρ) ⟨dd, .binOp .neq t x y u, ty, pos, af, gg⟩).run P w = .ok (.value ((.bool (decide (a ≠ b))))) w := by
    have : (a != b) = decide (a ≠ b) := by rw [Bool.eq_iff_iff]; simp
    simp [execOp, hx, hy, eqGuard_at_int, binOp_neq, this]
theorem r_lss (hx : ev ρ x = .int k a) (hy : ev ρ y = .int k b) : (execOp (ev ρ) ⟨dd, .binOp .lss t x y u, ty, pos, af, gg⟩).run P w = .ok (.value ((.bool (decide (a < b))))) w := by simp [execOp, hx, hy, eqGuard_at_int, binOp_lss]
theorem r_leq (hx : ev ρ x = .int k a) (hy : ev ρ y = .int k b) : (execOp (ev ρ) ⟨dd, .binOp .leq t x y u, ty, pos, af, gg⟩).run P w = .ok (.value ((.bool (decide (a ≤ b))))) w := by simp [execOp, hx, hy, eqGuard_at_int, binOp_leq]
theorem r_gtr (hx : ev ρ x = .int k a) (hy : ev ρ y = .int k b) : (execOp (ev ρ) ⟨dd, .binOp .gtr t x y u, ty, pos, af, gg⟩).run P w = .ok (.value ((.bool (decide (b < a))))) w := by simp [execOp, hx, hy, eqGuard_at_int, binOp_gtr]
theorem r_geq (hx : ev ρ x = .int k a) (hy : ev ρ y = .int k b) : (execOp (ev ρ) ⟨dd, .binOp .geq t x y u, ty, pos, af, gg⟩).run P w = .ok (.value ((.bool (decide (b ≤ a))))) w := by simp [execOp, hx, hy, eqGuard_at_int, binOp_geq]
end
section
variable {w0 : World} {S : List Nat} {L L' : List Ent} {A : Option Addr} {b o f1 f2 len cap sz : Nat} {cs : List Value} {bs : List UInt8} {T t e u s : TypeId} {x y lo hi : Operand} {kl kh : IntKind} {l h : Int}
theorem r_mv {x : Operand} {v : Value} (hx : ev ρ x = v) : (execOp (ev ρ) ⟨dd, .move x, ty, pos, af, gg⟩).run P w = .ok (.value (v)) w := by simp [execOp, hx]
theorem r_asg {x : Operand} {v : Value} (hx : ev ρ x = v) : (execOp (ev ρ) ⟨dd, .assign x, ty, pos, af, gg⟩).run P w = .ok (.value (v)) w := by simp [execOp, hx]
theorem r_pkT {c x y : Operand} {v : Value} (hc : ev ρ c = .bool true) (hx : ev ρ x = v) : (execOp (ev ρ) ⟨dd, .pick c x y, ty, pos, af, gg⟩).run P w = .ok (.value (v)) w := by simp [execOp, hc, hx, asBool]
theorem r_pkF {c x y : Operand} {v : Value} (hc : ev ρ c = .bool false) (hy : ev ρ y = v) : (execOp (ev ρ) ⟨dd, .pick c x y, ty, pos, af, gg⟩).run P w = .ok (.value (v)) w := by simp [execOp, hc, hy, asBool]
theorem r_unot {t : TypeId} {x : Operand} {b : Bool} (hx : ev ρ x = .bool b) : (execOp (ev ρ) ⟨dd, .unOp .not t x, ty, pos, af, gg⟩).run P w = .ok (.value ((.bool (!b)))) w := by simp [execOp, hx, Op.unary]
theorem r_eqlB {t u : TypeId} {x y : Operand} {a b : Bool} (hx : ev ρ x = .bool a) (hy : ev ρ y = .bool b) (hu : P.underlying t = some .bool) : (execOp (ev ρ) ⟨dd, .binOp .eql t x y u, ty, pos, af, gg⟩).run P w = .ok (.value ((.bool (decide (a = b))))) w := by
    have : (a == b) = decide (a = b) := by cases a <;> cases b <;> rfl
    have hr : (Op.equal t (.bool a) (.bool b)).run P w = .ok (a == b) w := by
      unfold Op.equal
      rw [show Op.maxDepth = 9999 + 1 from rfl, Op.equalIn]
      simp [run_underlying hu]
    simp only [execOp, hx, hy, eqGuard_at_bool, binOp]
    simp [hr, this]
theorem r_cvi {s t : TypeId} {x : Operand} {j k : IntKind} {a c : Int} (hx : ev ρ x = .int j a) (hs : (P.underlying s).isSome = true) (ht : P.underlying t = some (.int k)) (hc : k.wrap a = c) : (execOp (ev ρ) ⟨dd, .convert s t x, ty, pos, af, gg⟩).run P w = .ok (.value ((.int k c))) w := by
    subst hc
    obtain ⟨u, hu⟩ := Option.isSome_iff_exists.1 hs
    simp [execOp, hx, convert, run_underlying hu, run_underlying ht, Conv.intToInt]
theorem r_cvs {s t : TypeId} {x : Operand} {a : ByteArray} (hx : ev ρ x = .string a) (hs : P.underlying s = some .string) (ht : P.underlying t = some .string) : (execOp (ev ρ) ⟨dd, .convert s t x, ty, pos, af, gg⟩).run P w = .ok (.value ((.string a))) w := by simp [execOp, hx, convert, run_underlying hs, run_underlying ht]
theorem r_nc {x : Operand} {a : Addr} (hx : ev ρ x = .pointer (some a)) : (execOp (ev ρ) ⟨dd, .nilCheck x, ty, pos, af, gg⟩).run P w = .ok (.value ((.pointer (some a)))) w := by simp [execOp, hx]
theorem r_nci {x : Operand} {t : TypeId} {v : Value} (hx : ev ρ x = .iface t v) : (execOp (ev ρ) ⟨dd, .nilCheck x, ty, pos, af, gg⟩).run P w = .ok (.value ((.iface t v))) w := by simp [execOp, hx]
theorem r_fa {s f o b k : Nat} {x : Operand} (hx : ev ρ x = .pointer (some ⟨b, o, none⟩)) (hf : fieldOff P s f = some k) : (execOp (ev ρ) ⟨dd, .fieldAddr s x f, ty, pos, af, gg⟩).run P w = .ok (.value ((.pointer (some ⟨b, o + k, none⟩)))) w := by simp [execOp, hx, fieldOff_run hf, Addr.add_lit]
theorem r_ia {t e : TypeId} {x i : Operand} {b o len cap sz : Nat} {j : IntKind} {z : Int} (hx : ev ρ x = .slice (some ⟨b, o, none⟩) len cap) (hi : ev ρ i = .int j z) (hu : P.underlying t = some (.slice e)) (hs : sizeB P e sz = true) (hz : 0 ≤ z ∧ z < len) : (execOp (ev ρ) ⟨dd, .indexAddr t x i, ty, pos, af, gg⟩).run P w = .ok (.value ((.pointer (some ⟨b, o + z.toNat * sz, none⟩)))) w := by simp [execOp, hx, hi, Instr.indexAt, asIntOf, run_underlying hu, hz.1, hz.2, run_sizeOf hs, Addr.add_lit]
theorem r_iA {t e : TypeId} {x i : Operand} {ad : Addr} {len cap : Nat} {j : IntKind} {z : Int} (hx : ev ρ x = .slice (some ad) len cap) (hi : ev ρ i = .int j z) (hu : P.underlying t = some (.slice e)) (hs : sizeB P e 1 = true) (hz : 0 ≤ z ∧ z < len) : (execOp (ev ρ) ⟨dd, .indexAddr t x i, ty, pos, af, gg⟩).run P w = .ok (.value ((.pointer (some (ad.add z.toNat))))) w := by simp [execOp, hx, hi, Instr.indexAt, asIntOf, run_underlying hu, hz.1, hz.2, run_sizeOf hs]
theorem r_iy {t e : TypeId} {x i : Operand} {b o len sz : Nat} {j : IntKind} {z : Int} (hx : ev ρ x = .pointer (some ⟨b, o, none⟩)) (hi : ev ρ i = .int j z) (hu : P.underlying t = some (.array len e)) (hs : sizeB P e sz = true) (hz : 0 ≤ z ∧ z < len) : (execOp (ev ρ) ⟨dd, .indexAddr t x i, ty, pos, af, gg⟩).run P w = .ok (.value ((.pointer (some ⟨b, o + z.toNat * sz, none⟩)))) w := by simp [execOp, hx, hi, Instr.indexAt, asIntOf, run_underlying hu, hz.1, hz.2, run_sizeOf hs, Addr.add_lit, Instr.sureAddr]
theorem r_ld {fr : Nat × Nat} {v : Value} (H : SH w0 S w L) (hx : ev ρ x = .pointer (some ⟨b, o, none⟩)) [Look L b (.cells cs.toArray T fr)] (hs : scalarB P t = true) (hv : cs[o]? = some v) : (execOp (ev ρ) ⟨dd, .load t x, ty, pos, af, gg⟩).run P w = .ok (.value (v)) w := by
    have := H.look (b := b) (o := .cells cs.toArray T fr)
    simp [execOp, hx, Instr.loadAt, Instr.sureAddr, run_loadVar_scalar hs ((cell_at this).trans hv)]
theorem r_lc {ad : Addr} {v : Value} (hx : ev ρ x = .pointer (some ad)) (hc : w.cell? ad = some v) (hs : scalarB P t = true) : (execOp (ev ρ) ⟨dd, .load t x, ty, pos, af, gg⟩).run P w = .ok (.value (v)) w := by simp [execOp, hx, Instr.loadAt, Instr.sureAddr, run_loadVar_scalar hs hc]
theorem r_la {fr : Nat × Nat} {m : Nat} {vs : List Value} (H : SH w0 S w L) (hx : ev ρ x = .pointer (some ⟨b, o, none⟩)) [Look L b (.cells cs.toArray T fr)] (hs : aggB P t m = true) (hm : vs.length = m) (hv : (cs.drop o).take m = vs) : (execOp (ev ρ) ⟨dd, .load t x, ty, pos, af, gg⟩).run P w = .ok (.value ((.agg vs.toArray))) w := by
    have := H.look (b := b) (o := .cells cs.toArray T fr)
    have hl := run_loadVar_agg (P := P) (w := w) (a := ⟨b, o, none⟩) hs hm (fun j v hj => by
      rw [Addr.add_lit, cell_at this]
      rw [← hv, List.getElem?_take, List.getElem?_drop] at hj
      split at hj
      · exact hj
      · cases hj)
    simp [execOp, hx, Instr.loadAt, Instr.sureAddr, hl]
theorem r_xt {x : Operand} {vs : List Value} {i : Nat} {v : Value} (hx : ev ρ x = .tuple vs.toArray) (hv : vs[i]? = some v) : (execOp (ev ρ) ⟨dd, .extract x i, ty, pos, af, gg⟩).run P w = .ok (.value (v)) w := by simp [execOp, hx, Instr.extract, hv]
theorem r_lnS {t e : TypeId} {x : Operand} {A : Option Addr} {l c : Nat} (hx : ev ρ x = .slice A l c) (hu : P.underlying t = some (.slice e)) : (execOp (ev ρ) ⟨dd, .call { callee := .builtin .len, args := #[x], argTypes := #[t] }, ty, pos, af, gg⟩).run P w = .ok (.value ((.int .i64 (l : Int)))) w := by simp [execOp, resolve, invoke, builtin, hx, Builtin.len_, run_underlying hu, goInt]
theorem r_lnT {t : TypeId} {x : Operand} {s : ByteArray} (hx : ev ρ x = .string s) (hu : P.underlying t = some .string) : (execOp (ev ρ) ⟨dd, .call { callee := .builtin .len, args := #[x], argTypes := #[t] }, ty, pos, af, gg⟩).run P w = .ok (.value ((.int .i64 (s.size : Int)))) w := by simp [execOp, resolve, invoke, builtin, hx, Builtin.len_, run_underlying hu, goInt]
theorem r_shlK {t u : TypeId} {x y : Operand} {k yk : IntKind} {a b c p : Int} {s : Nat} (hx : ev ρ x = .int k a) (hy : ev ρ y = .int yk b) (hs : min b.toNat k.bits = s) (hb : 0 ≤ b ∧ (2 : Int) ^ s = p) (hc : k.wrap (a * p) = c) : (execOp (ev ρ) ⟨dd, .binOp .shl t x y u, ty, pos, af, gg⟩).run P w = .ok (.value ((.int k c))) w := r_shl hx hy hb.1 (by rw [hs, hb.2, hc])
theorem r_shrK {t u : TypeId} {x y : Operand} {k yk : IntKind} {a b c p : Int} {s : Nat} (hx : ev ρ x = .int k a) (hy : ev ρ y = .int yk b) (hs : min b.toNat k.bits = s) (hb : 0 ≤ b ∧ (2 : Int) ^ s = p) (hc : a / p = c) : (execOp (ev ρ) ⟨dd, .binOp .shr t x y u, ty, pos, af, gg⟩).run P w = .ok (.value ((.int k c))) w := r_shr hx hy hb.1 (by rw [hs, hb.2, hc])
theorem r_ucompl {t : TypeId} {x : Operand} {k : IntKind} {a c : Int} (hx : ev ρ x = .int k a) (hc : bits .xor k (if k.signed then -1 else k.max) a = c) : (execOp (ev ρ) ⟨dd, .unOp .xor t x, ty, pos, af, gg⟩).run P w = .ok (.value ((.int k c))) w := by subst hc; simp [execOp, hx, Op.unary, intBits_xor]
theorem r_neqB {t u : TypeId} {x y : Operand} {a b : Bool} (hx : ev ρ x = .bool a) (hy : ev ρ y = .bool b) (hu : P.underlying t = some .bool) : (execOp (ev ρ) ⟨dd, .binOp .neq t x y u, ty, pos, af, gg⟩).run P w = .ok (.value ((.bool (decide (a ≠ b))))) w := by
    have : (!(a == b)) = decide (a ≠ b) := by cases a <;> cases b <;> rfl
    have hr : (Op.equal t (.bool a) (.bool b)).run P w = .ok (a == b) w := by
      unfold Op.equal
      rw [show Op.maxDepth = 9999 + 1 from rfl, Op.equalIn]
      simp [run_underlying hu]
    simp only [execOp, hx, hy, eqGuard_at_bool, binOp]
    simp [hr, ← this]
theorem r_eqlT {t u : TypeId} {x y : Operand} {a b : List UInt8} (hx : ev ρ x = .string (str a)) (hy : ev ρ y = .string (str b)) : (execOp (ev ρ) ⟨dd, .binOp .eql t x y u, ty, pos, af, gg⟩).run P w = .ok (.value ((.bool (decide (a = b))))) w := by
    have : (a == b) = decide (a = b) := by rw [Bool.eq_iff_iff]; simp
    simp [execOp, hx, hy, eqGuard_at_string, binOp_string_eql, str, this]
theorem r_neqT {t u : TypeId} {x y : Operand} {a b : List UInt8} (hx : ev ρ x = .string (str a)) (hy : ev ρ y = .string (str b)) : (execOp (ev ρ) ⟨dd, .binOp .neq t x y u, ty, pos, af, gg⟩).run P w = .ok (.value ((.bool (decide (a ≠ b))))) w := by
    have : (!(a == b)) = decide (a ≠ b) := by rw [Bool.eq_iff_iff]; simp
    simp only [execOp, hx, hy, eqGuard_at_string, binOp_string_neq, str, ByteArray.toList_mk, this]
    rfl
theorem r_mi {t : TypeId} {x : Operand} {v : Value} (hx : ev ρ x = v) (hc : P.concrete t = true) : (execOp (ev ρ) ⟨dd, .makeInterface t x, ty, pos, af, gg⟩).run P w = .ok (.value ((.iface t v))) w := by simp [execOp, hx, run_makeInterface w t v hc]
theorem r_ldb {fr : Nat × Nat} (H : SH w0 S w L) (hx : ev ρ x = .pointer (some ⟨b, o, none⟩)) [Look L b (.cells (Bs bs).toArray T fr)] (hs : scalarB P t = true) (ho : o < bs.length) : (execOp (ev ρ) ⟨dd, .load t x, ty, pos, af, gg⟩).run P w = .ok (.value ((.int .u8 ((bs.getD o 0).toNat : Int)))) w := r_ld (cs := Bs bs) H hx hs (Bs_get ho)
theorem r_ixS {t : TypeId} {x i : Operand} {bs : List UInt8} {j : IntKind} {z : Int} (hx : ev ρ x = .string (str bs)) (hi : ev ρ i = .int j z) (hu : P.underlying t = some .string) (hz : 0 ≤ z ∧ z < bs.length) : (execOp (ev ρ) ⟨dd, .index t x i, ty, pos, af, gg⟩).run P w = .ok (.value ((.int .u8 ((bs.getD z.toNat 0).toNat : Int)))) w := by
    have hl : z.toNat < bs.length := by omega
    have hlt : z.toNat < (str bs).size := by simpa using hl
    have hg : (str bs)[z.toNat]? = some (bs.getD z.toNat 0) := by
      rw [ByteArray.getElem?_lt' _ _ hlt]
      simp [str, ByteArray.getElem_eq_getElem_data, List.getD_eq_getElem?_getD, hl]
    simp [execOp, hx, hi, Instr.index, asIntOf, run_underlying hu, hz.1, hg]
theorem r_sllh (hx : ev ρ x = .slice (some ⟨b, o, none⟩) len cap) (h1 : ev ρ lo = .int kl l) (h2 : ev ρ hi = .int kh h) (hu : P.underlying t = some (.slice e)) (hs : sizeB P e sz = true) (hb : 0 ≤ l ∧ l ≤ h ∧ h ≤ cap ∧ l < cap) : (execOp (ev ρ) ⟨dd, .slice t x (some lo) (some hi) none, ty, pos, af, gg⟩).run P w = .ok (.value ((.slice (some ⟨b, o + l.toNat * sz, none⟩) (h.toNat - l.toNat) (cap - l.toNat)))) w := by
    obtain ⟨j, rfl⟩ := Int.eq_ofNat_of_zero_le (show 0 ≤ h by omega)
    have e1 : (j : Int) ≤ (cap : Int) := hb.2.2.1
    have e2 : ¬ cap = l.toNat := by omega
    have e3 : j ≤ cap := by omega
    simp [execOp, hx, h1, h2, Instr.sliceAt, run_underlying hu, Instr.slice, Instr.sliceBounds, Instr.sliceBound, asIntOf, hb.1, hb.2.1, e3, run_sizeOf hs, e2, Addr.add_lit]
theorem r_slh (hx : ev ρ x = .slice A len cap) (h2 : ev ρ hi = .int kh h) (hu : P.underlying t = some (.slice e)) (hs : sizeB P e sz = true) (hb : 0 ≤ h ∧ h ≤ cap) : (execOp (ev ρ) ⟨dd, .slice t x none (some hi) none, ty, pos, af, gg⟩).run P w = .ok (.value ((.slice A h.toNat cap))) w := by
    have e0 : ∀ a : Addr, a.add 0 = a := fun a => by simp [Addr.add]
    cases A <;> simp [execOp, hx, h2, Instr.sliceAt, run_underlying hu, Instr.slice, Instr.sliceBounds, Instr.sliceBound, asIntOf, hb.1, hb.2, run_sizeOf hs, e0]
theorem r_sll (hx : ev ρ x = .slice (some ⟨b, o, none⟩) len cap) (h1 : ev ρ lo = .int kl l) (hu : P.underlying t = some (.slice e)) (hs : sizeB P e sz = true) (hb : 0 ≤ l ∧ l ≤ len ∧ l < cap) : (execOp (ev ρ) ⟨dd, .slice t x (some lo) none none, ty, pos, af, gg⟩).run P w = .ok (.value ((.slice (some ⟨b, o + l.toNat * sz, none⟩) (len - l.toNat) (cap - l.toNat)))) w := by
    have e2 : ¬ cap = l.toNat := by omega
    simp [execOp, hx, h1, Instr.sliceAt, run_underlying hu, Instr.slice, Instr.sliceBounds, Instr.sliceBound, asIntOf, hb.1, hb.2.1, run_sizeOf hs, e2, Addr.add_lit]
theorem r_sl (hx : ev ρ x = .slice A len cap) (hu : P.underlying t = some (.slice e)) (hs : sizeB P e sz = true) (hb : True) : (execOp (ev ρ) ⟨dd, .slice t x none none none, ty, pos, af, gg⟩).run P w = .ok (.value ((.slice A len cap))) w := by
    have e0 : ∀ a : Addr, a.add 0 = a := fun a => by simp [Addr.add]
    cases A <;> simp [execOp, hx, Instr.sliceAt, run_underlying hu, Instr.slice, Instr.sliceBounds, run_sizeOf hs, e0]
theorem r_slTlh (hx : ev ρ x = .string (str bs)) (h1 : ev ρ lo = .int kl l) (h2 : ev ρ hi = .int kh h) (hu : P.underlying t = some .string) (hb : 0 ≤ l ∧ l ≤ h ∧ h ≤ bs.length) : (execOp (ev ρ) ⟨dd, .slice t x (some lo) (some hi) none, ty, pos, af, gg⟩).run P w = .ok (.value ((.string (str ((bs.take h.toNat).drop l.toNat))))) w := by
    obtain ⟨j, rfl⟩ := Int.eq_ofNat_of_zero_le (show 0 ≤ h by omega)
    have e3 : j ≤ bs.length := by omega
    simp [execOp, hx, h1, h2, Instr.sliceAt, run_underlying hu, Instr.slice, Instr.sliceBounds, Instr.sliceBound, asIntOf, hb.1, hb.2.1, e3, str_part]
theorem r_slTh (hx : ev ρ x = .string (str bs)) (h2 : ev ρ hi = .int kh h) (hu : P.underlying t = some .string) (hb : 0 ≤ h ∧ h ≤ bs.length) : (execOp (ev ρ) ⟨dd, .slice t x none (some hi) none, ty, pos, af, gg⟩).run P w = .ok (.value ((.string (str (bs.take h.toNat))))) w := by
    simp [execOp, hx, h2, Instr.sliceAt, run_underlying hu, Instr.slice, Instr.sliceBounds, Instr.sliceBound, asIntOf, hb.1, hb.2, str_part]
theorem r_slTl (hx : ev ρ x = .string (str bs)) (h1 : ev ρ lo = .int kl l) (hu : P.underlying t = some .string) (hb : 0 ≤ l ∧ l ≤ bs.length) : (execOp (ev ρ) ⟨dd, .slice t x (some lo) none none, ty, pos, af, gg⟩).run P w = .ok (.value ((.string (str (bs.drop l.toNat))))) w := by
    simp [execOp, hx, h1, Instr.sliceAt, run_underlying hu, Instr.slice, Instr.sliceBounds, Instr.sliceBound, asIntOf, hb.1, hb.2, str_part]
theorem r_cvBS {A : Option Addr} {m c : Nat} (hx : ev ρ x = .slice A m c) (h : RB w A m bs) (hs : P.underlying s = some (.slice e)) (he : P.underlying e = some (.int .u8)) (ht : P.underlying t = some .string) : (execOp (ev ρ) ⟨dd, .convert s t x, ty, pos, af, gg⟩).run P w = .ok (.value ((.string (str bs)))) w := by simp [execOp, hx, run_bytes_string h hs he ht]
theorem r_fd {t ft : TypeId} {i o : Nat} {x : Operand} {cs : List Value} {v : Value} (hx : ev ρ x = .agg cs.toArray) (hf : fieldTy P t i = some (ft, o)) (hs : scalarB P ft = true) (hv : cs[o]? = some v) : (execOp (ev ρ) ⟨dd, .field t x i, ty, pos, af, gg⟩).run P w = .ok (.value (v)) w := by
    unfold fieldTy at hf
    cases hu : P.underlying t with
    | none => simp [hu] at hf
    | some u =>
      cases u <;> simp [hu] at hf
      obtain ⟨f, hf1, rfl, rfl⟩ := hf
      simp [execOp, hx, Instr.field, run_underlying hu, hf1, part, run_isAgg_scalar hs, asAgg, hv]
theorem r_fdA {t ft : TypeId} {i o m : Nat} {x : Operand} {cs vs : List Value} (hx : ev ρ x = .agg cs.toArray) (hf : fieldTy P t i = some (ft, o)) (hs : aggB P ft m = true) (hv : (cs.drop o).take m = vs) : (execOp (ev ρ) ⟨dd, .field t x i, ty, pos, af, gg⟩).run P w = .ok (.value ((.agg vs.toArray))) w := by
    unfold fieldTy at hf
    cases hu : P.underlying t with
    | none => simp [hu] at hf
    | some u =>
      cases u <;> simp [hu] at hf
      obtain ⟨f, hf1, rfl, rfl⟩ := hf
      subst hv
      simp [execOp, hx, Instr.field, run_underlying hu, hf1, part, run_isAgg_agg hs, run_sizeOf (size_of_agg hs), asAgg]
theorem r_min2 {ts : Array TypeId} {x y : Operand} {k : IntKind} {a b : Int} (hx : ev ρ x = .int k a) (hy : ev ρ y = .int k b) : (execOp (ev ρ) ⟨dd, .call { callee := .builtin .min, args := #[x, y], argTypes := ts }, ty, pos, af, gg⟩).run P w = .ok (.value ((.int k (min a b)))) w := by
    have e : (if b < a then b else a) = min a b := by omega
    simp [execOp, resolve, invoke, builtin, hx, hy, Builtin.min_, Builtin.min2, e]
theorem r_max2 {ts : Array TypeId} {x y : Operand} {k : IntKind} {a b : Int} (hx : ev ρ x = .int k a) (hy : ev ρ y = .int k b) : (execOp (ev ρ) ⟨dd, .call { callee := .builtin .max, args := #[x, y], argTypes := ts }, ty, pos, af, gg⟩).run P w = .ok (.value ((.int k (max a b)))) w := by
    have e : (if a < b then b else a) = max a b := by omega
    simp [execOp, resolve, invoke, builtin, hx, hy, Builtin.max_, Builtin.max2, e]
theorem r_cpS {t e : TypeId} {x : Operand} {A : Option Addr} {l c : Nat} (hx : ev ρ x = .slice A l c) (hu : P.underlying t = some (.slice e)) : (execOp (ev ρ) ⟨dd, .call { callee := .builtin .cap, args := #[x], argTypes := #[t] }, ty, pos, af, gg⟩).run P w = .ok (.value ((.int .i64 (c : Int)))) w := by simp [execOp, resolve, invoke, builtin, hx, Builtin.cap_, run_underlying hu, goInt]
theorem r_eqlI0 {t u : TypeId} {ms : Array (String × TypeId)} {x : Operand} (hx : ev ρ x = .nilIface) (hu : P.underlying t = some (.interface ms)) : (execOp (ev ρ) ⟨dd, .binOp .eql t x (.const .nilIface) u, ty, pos, af, gg⟩).run P w = .ok (.value ((.bool true))) w := by
    have e : ev ρ (.const .nilIface) = .nilIface := rfl
    simp only [execOp, hx, e, eqGuard_nil_constR, binOp]
    simp [run_eqI_nn hu]
theorem r_eqlI1 {t u s : TypeId} {v : Value} {ms : Array (String × TypeId)} {x : Operand} (hx : ev ρ x = .iface s v) (hu : P.underlying t = some (.interface ms)) : (execOp (ev ρ) ⟨dd, .binOp .eql t x (.const .nilIface) u, ty, pos, af, gg⟩).run P w = .ok (.value ((.bool false))) w := by
    have e : ev ρ (.const .nilIface) = .nilIface := rfl
    simp only [execOp, hx, e, eqGuard_at_iface, binOp]
    simp [run_eqI_in hu]
theorem r_neqI0 {t u : TypeId} {ms : Array (String × TypeId)} {x : Operand} (hx : ev ρ x = .nilIface) (hu : P.underlying t = some (.interface ms)) : (execOp (ev ρ) ⟨dd, .binOp .neq t x (.const .nilIface) u, ty, pos, af, gg⟩).run P w = .ok (.value ((.bool false))) w := by
    have e : ev ρ (.const .nilIface) = .nilIface := rfl
    simp only [execOp, hx, e, eqGuard_nil_constR, binOp]
    simp [run_eqI_nn hu]
theorem r_neqI1 {t u s : TypeId} {v : Value} {ms : Array (String × TypeId)} {x : Operand} (hx : ev ρ x = .iface s v) (hu : P.underlying t = some (.interface ms)) : (execOp (ev ρ) ⟨dd, .binOp .neq t x (.const .nilIface) u, ty, pos, af, gg⟩).run P w = .ok (.value ((.bool true))) w := by
    have e : ev ρ (.const .nilIface) = .nilIface := rfl
    simp only [execOp, hx, e, eqGuard_at_iface, binOp]
    simp [run_eqI_in hu]
theorem r_ixV {t e : TypeId} {x i : Operand} {cs : List Value} {j : IntKind} {z : Int} {m : Nat} {v : Value} (hx : ev ρ x = .agg cs.toArray) (hi : ev ρ i = .int j z) (hu : P.underlying t = some (.array m e)) (hs : scalarB P e = true) (hsz : sizeB P e 1 = true) (hz : 0 ≤ z ∧ z < m) (hv : cs[z.toNat]? = some v) : (execOp (ev ρ) ⟨dd, .index t x i, ty, pos, af, gg⟩).run P w = .ok (.value (v)) w := by simp [execOp, hx, hi, Instr.index, asIntOf, run_underlying hu, hz.1, hz.2, run_sizeOf hsz, part, run_isAgg_scalar hs, hv]
theorem r_ixW {t e : TypeId} {x i : Operand} {cs vs : List Value} {j : IntKind} {z : Int} {m sz : Nat} (hx : ev ρ x = .agg cs.toArray) (hi : ev ρ i = .int j z) (hu : P.underlying t = some (.array m e)) (hs : aggB P e sz = true) (hz : 0 ≤ z ∧ z < m) (hv : (cs.drop (z.toNat * sz)).take sz = vs) : (execOp (ev ρ) ⟨dd, .index t x i, ty, pos, af, gg⟩).run P w = .ok (.value ((.agg vs.toArray))) w := by subst hv; simp [execOp, hx, hi, Instr.index, asIntOf, run_underlying hu, hz.1, hz.2, run_sizeOf (size_of_agg hs), part, run_isAgg_agg hs]
theorem r_iB {t e : TypeId} {x i : Operand} {ad : Addr} {len cap sz : Nat} {j : IntKind} {z : Int} (hx : ev ρ x = .slice (some ad) len cap) (hi : ev ρ i = .int j z) (hu : P.underlying t = some (.slice e)) (hs : sizeB P e sz = true) (hz : 0 ≤ z ∧ z < len) : (execOp (ev ρ) ⟨dd, .indexAddr t x i, ty, pos, af, gg⟩).run P w = .ok (.value ((.pointer (some (ad.add (z.toNat * sz)))))) w := by simp [execOp, hx, hi, Instr.indexAt, asIntOf, run_underlying hu, hz.1, hz.2, run_sizeOf hs]
theorem r_iyB {t e : TypeId} {x i : Operand} {ad : Addr} {len sz : Nat} {j : IntKind} {z : Int} (hx : ev ρ x = .pointer (some ad)) (hi : ev ρ i = .int j z) (hu : P.underlying t = some (.array len e)) (hs : sizeB P e sz = true) (hz : 0 ≤ z ∧ z < len) : (execOp (ev ρ) ⟨dd, .indexAddr t x i, ty, pos, af, gg⟩).run P w = .ok (.value ((.pointer (some (ad.add (z.toNat * sz)))))) w := by simp [execOp, hx, hi, Instr.indexAt, asIntOf, run_underlying hu, hz.1, hz.2, run_sizeOf hs, Instr.sureAddr]
theorem r_lw {t : TypeId} {x : Operand} {ad : Addr} {m : Nat} {vs : List Value} (hx : ev ρ x = .pointer (some ad)) (hs : aggB P t m = true) (hm : vs.length = m) (hc : ∀ j v, vs[j]? = some v → w.cell? (ad.add j) = some v) : (execOp (ev ρ) ⟨dd, .load t x, ty, pos, af, gg⟩).run P w = .ok (.value ((.agg vs.toArray))) w := by
    have hl := run_loadVar_agg (P := P) (w := w) (a := ad) hs hm hc
    simp [execOp, hx, Instr.loadAt, Instr.sureAddr, hl]
theorem r_eqlN {t u e : TypeId} {x : Operand} {A : Option Addr} {l c : Nat} (hx : ev ρ x = .slice A l c) (hu : P.underlying t = some (.slice e)) : (execOp (ev ρ) ⟨dd, .binOp .eql t x (.const (.slice none 0 0)) u, ty, pos, af, gg⟩).run P w = .ok (.value ((.bool A.isNone))) w := by
    have e : ev ρ (.const (.slice none 0 0)) = .slice none 0 0 := rfl
    simp only [execOp, hx, e, eqGuard_at_slice, binOp]
    simp [run_eqN hu]
theorem r_neqN {t u e : TypeId} {x : Operand} {A : Option Addr} {l c : Nat} (hx : ev ρ x = .slice A l c) (hu : P.underlying t = some (.slice e)) : (execOp (ev ρ) ⟨dd, .binOp .neq t x (.const (.slice none 0 0)) u, ty, pos, af, gg⟩).run P w = .ok (.value ((.bool A.isSome))) w := by
    have e : ev ρ (.const (.slice none 0 0)) = .slice none 0 0 := rfl
    simp only [execOp, hx, e, eqGuard_at_slice, binOp]
    cases A <;> simp [run_eqN hu]
theorem r_eqlP {t u e : TypeId} {x : Operand} {A : Option Addr} (hx : ev ρ x = .pointer A) (hu : P.underlying t = some (.pointer e)) : (execOp (ev ρ) ⟨dd, .binOp .eql t x (.const (.pointer none)) u, ty, pos, af, gg⟩).run P w = .ok (.value ((.bool A.isNone))) w := by
    have e : ev ρ (.const (.pointer none)) = .pointer none := rfl
    simp only [execOp, hx, e, eqGuard_at_pointer, binOp]
    simp [run_eqP hu]
theorem r_neqP {t u e : TypeId} {x : Operand} {A : Option Addr} (hx : ev ρ x = .pointer A) (hu : P.underlying t = some (.pointer e)) : (execOp (ev ρ) ⟨dd, .binOp .neq t x (.const (.pointer none)) u, ty, pos, af, gg⟩).run P w = .ok (.value ((.bool A.isSome))) w := by
    have e : ev ρ (.const (.pointer none)) = .pointer none := rfl
    simp only [execOp, hx, e, eqGuard_at_pointer, binOp]
    cases A <;> simp [run_eqP hu]
end
end
end Go.Proofs.Ythcaejaaalkglaa.X
/- Results that lie in cells. -/
namespace Go.Proofs.Ythcaejaaalkglaa.X
open Go Go.RowKit
set_option linter.unusedVariables false
/-- What one result variable gives. -/
def resOne (P : Program) (ρ : Env) (w : World) : ResultVar → Value → Prop
  | .tmp t, v => v = ρ t
  | .cell t ty, v => ∃ (ad : Addr) (cs : List Value), ρ t = .pointer (some ad) ∧ aggB P ty cs.length = true ∧ (∀ j u, cs[j]? = some u → w.cell? (ad.add j) = some u) ∧ v = .agg cs.toArray
def resAll (P : Program) (ρ : Env) (w : World) : List ResultVar → List Value → Prop
  | [], [] => True
  | r :: rs, v :: vs => resOne P ρ w r v ∧ resAll P ρ w rs vs
  | _, _ => False
def resVal : List Value → Value
  | [v] => v
  | vs => .tuple vs.toArray
def finR (P : Program) (rs : List ResultVar) (φ : Value → World → Prop) : Post
  | .normal, ρ, w => ∃ vs, resAll P ρ w rs vs ∧ φ (resVal vs) w
  | .ret, ρ, w => ∃ vs, resAll P ρ w rs vs ∧ φ (resVal vs) w
  | _, _, _ => False
def resSem (a : Act) : ResultVar → Sem Value
  | .tmp t => pure (a.tmps.getD t undef)
  | .cell d t => do loadVar t (← asAddr (a.tmps.getD d undef))
theorem resOne_run {P : Program} {a : Act} {w : World} {r : ResultVar} {v : Value} (h : resOne P (envOf a) w r v) : (resSem a r).run P w = .ok v w := by
  cases r with
  | tmp t => simp only [resOne, envOf] at h; subst h; simp [resSem]
  | cell d t =>
    obtain ⟨ad, cs, h1, h2, h3, rfl⟩ := h
    simp only [envOf] at h1
    have hl := run_loadVar_agg (P := P) (w := w) (a := ad) h2 rfl h3
    simp only [resSem, h1]
    simp [asAddr, hl]
theorem resAll_len {P : Program} {ρ : Env} {w : World} : ∀ {rs : List ResultVar} {vs : List Value}, resAll P ρ w rs vs → rs.length = vs.length
  | [], [], _ => rfl
  | [], _ :: _, h => h.elim
  | _ :: _, [], h => h.elim
  | _ :: rs, _ :: vs, h => by simp [resAll_len h.2]
theorem resAll_mapM {P : Program} {a : Act} {w : World} : ∀ {rs : List ResultVar} {vs : List Value}, resAll P (envOf a) w rs vs → (rs.mapM (resSem a)).run P w = .ok vs w
  | [], [], _ => by simp
  | [], _ :: _, h => h.elim
  | _ :: _, [], h => h.elim
  | r :: rs, v :: vs, h => by
    have h1 := resOne_run h.1
    have h2 := resAll_mapM h.2
    simp only [List.mapM_cons, Sem.run_bind, h1, Result.andThen_ok, h2, Sem.run_pure]
theorem results_run {P : Program} {fn : Func} {a : Act} {w : World} {rs : List ResultVar} {vs : List Value} (hf : fn.results = rs.toArray) (h : resAll P (envOf a) w rs vs) : (results fn a.tmps).run P w = .ok (resVal vs) w := by
  have hm := resAll_mapM h
  have e : results fn a.tmps = (do
      let vs ← fn.results.mapM (resSem a)
      pure (if h : vs.size = 1 then vs[0] else .tuple vs)) := by
    unfold results
    congr 2
  rw [e, hf, List.mapM_toArray]
  simp only [Sem.run_bind, Sem.run_map, hm, Result.andThen_ok]
  cases vs with
  | nil => simp [resVal]
  | cons v vs =>
    cases vs with
    | nil => simp [resVal]
    | cons u vs => simp [resVal]
theorem enterR {P : Program} {f : FuncId} {fn : Func} {c : Code} {l : List Value} {w : World} {φ : Value → World → Prop} {n : Nat} (rs : List ResultVar)
    (hf : P.funcs[f]? = some fn) (hb : fn.body = some c) (hn : fn.ntmps = n) (hl : Nat.ble l.length n = true) (hr : fn.results = rs.toArray)
    (h : cw P n c (finR P rs φ) (argEnv l) w) : Calls P f l.toArray w (Ret φ) := by
  have hl' : l.length ≤ n := Nat.le_of_ble_eq_true hl
  refine calls_of_wp hf hb ?_
  subst hn
  have he : envOf { tmps := l.toArray ++ Array.replicate (fn.ntmps - l.toArray.size) undef, defers := [] } = argEnv l := by
    funext t
    simp only [envOf, argEnv, Array.getD_eq_getD_getElem?, Array.getElem?_append, List.size_toArray, List.getElem?_toArray, List.getD_eq_getElem?_getD]
    by_cases ht : t < l.length
    · rw [if_pos ht]
    · rw [if_neg ht, List.getElem?_eq_none (by omega)]
      simp [Array.getElem?_replicate]
      split <;> rfl
  refine wp_mono (h _ rfl (by simp; omega) he) ?_
  rintro e a w ⟨h1, h2, h3⟩
  cases e with
  | normal => obtain ⟨vs, hv, hφ⟩ := h3; exact ⟨h1, _, results_run hr hv, hφ⟩
  | ret => obtain ⟨vs, hv, hφ⟩ := h3; exact ⟨h1, _, results_run hr hv, hφ⟩
  | _ => exact h3.elim
theorem finR_n {P : Program} {rs : List ResultVar} {φ : Value → World → Prop} {ρ : Env} {w : World} (h : ∃ vs, resAll P ρ w rs vs ∧ φ (resVal vs) w) : finR P rs φ .normal ρ w := h
theorem finR_r {P : Program} {rs : List ResultVar} {φ : Value → World → Prop} {ρ : Env} {w : World} (h : ∃ vs, resAll P ρ w rs vs ∧ φ (resVal vs) w) : finR P rs φ .ret ρ w := h
theorem finC {P : Program} {t : Nat} {ty : TypeId} {ρ : Env} {w : World} {b : Nat} {cs : List Value} {T : TypeId} {fr : Nat × Nat} (ht : ρ t = .pointer (some ⟨b, 0, none⟩)) (hc : w.heap[b]? = some (.cells cs.toArray T fr)) (ha : aggB P ty cs.length = true) : resOne P ρ w (.cell t ty) (.agg cs.toArray) :=
  ⟨_, cs, ht, ha, fun j u hu => by rw [Addr.add_lit, cell_at hc]; simpa using hu, rfl⟩
end Go.Proofs.Ythcaejaaalkglaa.X
/- The laws of single operations: maps that are written out, methods of interface values. -/
namespace Go.Proofs.Ythcaejaaalkglaa.X
set_option linter.unusedVariables false
open Go Go.RowKit
theorem getMap {P : Program} {w : World} {r : Nat} {es : Array MapEntry} {clock : Nat} (hb : w.heap[r]? = some (.map es clock)) : (getObj r).run P w = .ok (.map es clock) w := by simp [getObj, Sem.run, hb]
theorem setMap {P : Program} {w : World} {r : Nat} {es : Array MapEntry} {clock : Nat} (o : Obj) (hb : w.heap[r]? = some (.map es clock)) : (setObj r o).run P w = .ok () { w with heap := w.heap.setIfInBounds r o } := by simp [setObj, Sem.run, hb]
section steps
variable {P : Program} {n : Nat} {ops : Array Oper} {Q : Post} {rest : List Oper} {ρ : Env} {w : World} {ty : TypeId} {pos : String} {af : Array Edge} {d : Nat}
variable {w0 : World} {S : List Nat} {L L' : List Ent}
theorem mkm {t : TypeId} (H : SH w0 S w L) (hn : Nat.blt d n = true) (kk : ∀ b w', w.heap.size ≤ b → SH w0 S w' (⟨b, .map ([] : List MapEntry).toArray 0, true⟩ :: L) → Fr [] w w' → wl P n ops Q rest (upd ρ d (.map (some b))) w') : wl P n ops Q (⟨some d, .makeMap t none, ty, pos, af, none⟩ :: rest) ρ w :=
  val rfl rfl hn (w' := w.alloc (.map #[] 0)) (v := .map (some w.heap.size)) (by have h := run_makeMap_plain (P := P) w t; simp [execOp, h]) (kk _ _ (Nat.le_refl _) (H.new (Fr.alloc _ _) (Nat.le_refl _) (heap_alloc_new _ _)) (Fr.alloc _ _))
theorem ins {t kt et : TypeId} {kd kq : IntKind} {m k x : Operand} {b clock : Nat} {es : List MapEntry} {z : Int} {v : Value} (H : SH w0 S w L) (hm : ev ρ m = .map (some b)) (hk : ev ρ k = .int kq z) (hx : ev ρ x = v) (hu : P.underlying t = some (.map kt et)) (hkt : P.underlying kt = some (.int kd)) [Look L b (.map es.toArray clock)] (hf : Instr.findNow (.int kd) (.int kq z) es 0 = some none)
    [tn : Turn L b (.map (es ++ [(MapEntry.mk (.int kq z) v clock)]).toArray (clock + 1)) L'] (kk : ∀ w', SH w0 S w' L' → Fr [b] w w' → wl P n ops Q rest ρ w') : wl P n ops Q (⟨none, .insert t m k x, ty, pos, af, none⟩ :: rest) ρ w := by
  have hL := H.look (b := b) (o := .map es.toArray clock)
  have hg := getMap (P := P) hL
  have hs := setMap (P := P) (.map (es ++ [(MapEntry.mk (.int kq z) v clock)]).toArray (clock + 1)) hL
  have hlt := lt_of_at hL
  have hfr : Fr [b] w { w with heap := w.heap.setIfInBounds b (.map (es ++ [(MapEntry.mk (.int kq z) v clock)]).toArray (clock + 1)) } :=
    ⟨rfl, rfl, rfl, by simp, fun i _ hi => by
      have : b ≠ i := fun e => hi (by simp [e])
      simp [this]⟩
  refine unt rfl rfl (w' := { w with heap := w.heap.setIfInBounds b (.map (es ++ [(MapEntry.mk (.int kq z) v clock)]).toArray (clock + 1)) }) ?_ (kk _ (H.put (b := b) (o' := .map (es ++ [(MapEntry.mk (.int kq z) v clock)]).toArray (clock + 1)) hfr (by simp [hlt])) hfr)
  have hc : (Instr.checkKey false 10000 kt (.int kq z)).run P w = .ok () w := by
    rw [show (10000 : Nat) = 9999 + 1 from rfl, Instr.checkKey]
    simp [run_underlying hkt]
  have e1 : es.toArray.push (MapEntry.mk (.int kq z) v clock) = (es ++ [(MapEntry.mk (.int kq z) v clock)]).toArray := by simp
  simp only [execOp, hm, hk, hx]
  simp [Instr.mapUpdate, run_underlying hu, hg, hc, Instr.findKey, run_underlying hkt, hf, hs]
theorem lkp {t kt et : TypeId} {kd kq : IntKind} {m k : Operand} {b clock : Nat} {es : List MapEntry} {z : Int} {v : Value} (H : SH w0 S w L) (hm : ev ρ m = .map (some b)) (hk : ev ρ k = .int kq z) (hu : P.underlying t = some (.map kt et)) (hkt : P.underlying kt = some (.int kd)) [Look L b (.map es.toArray clock)] (hf : ∃ i, Instr.findNow (.int kd) (.int kq z) es 0 = some (some (i, v)))
    (hn : Nat.blt d n = true) (kk : wl P n ops Q rest (upd ρ d v) w) : wl P n ops Q (⟨some d, .lookup t m k false, ty, pos, af, none⟩ :: rest) ρ w := by
  obtain ⟨i, hf⟩ := hf
  have hL := H.look (b := b) (o := .map es.toArray clock)
  have hg := getMap (P := P) hL
  have hc : (Instr.checkKey es.isEmpty 10000 kt (.int kq z)).run P w = .ok () w := by
    rw [show (10000 : Nat) = 9999 + 1 from rfl, Instr.checkKey]
    simp [run_underlying hkt]
  refine val rfl rfl hn ?_ kk
  simp only [execOp, hm, hk]
  simp [Instr.lookup, run_underlying hu, hg, hc, Instr.findKey, run_underlying hkt, hf]
/-- A method of an interface value. -/
theorem mc {recv : Operand} {name : String} {xs : List Operand} {ts : Array TypeId} {t : TypeId} {f : FuncId} {rv : Value} {φ : Value → World → Prop} (hr : ev ρ recv = .iface t rv) (hm : ∀ v w, (method (P.types.size + Made.depth) t v name).run P w = .ok (f, v) w) (hf : callable P f = true) (hc : Calls P f (rv :: xs.map (ev ρ)).toArray w (Ret φ)) (hn : Nat.blt d n = true)
    (k : ∀ v w', φ v w' → wl P n ops Q rest (upd ρ d v) w') : wl P n ops Q (⟨some d, .call { callee := .invoke recv name, args := xs.toArray, argTypes := ts }, ty, pos, af, none⟩ :: rest) ρ w :=
  enterC rfl rfl hn (by
    have e2 : #[rv] ++ (xs.map (ev ρ)).toArray = (rv :: xs.map (ev ρ)).toArray := by simp
    have e3 : (callMethod (.iface t rv) name (xs.map (ev ρ)).toArray).run P w = .ok (.enter f (rv :: xs.map (ev ρ)).toArray) w := by
      simp [callMethod, hm, run_callFunc hf, run_program]
    have e4 : List.take xs.length (List.map (ev ρ) xs) = List.map (ev ρ) xs := List.take_of_length_le (by simp)
    simp only [execOp, resolve, invoke, hr, Sem.run_bind, Sem.run_pure, Result.andThen_ok, List.map_toArray]
    simp [e3, e4]) hc k
end steps
end Go.Proofs.Ythcaejaaalkglaa.X
/- The laws of single operations in tidy forms: what comes out is said by the one who uses them. -/
namespace Go.Proofs.Ythcaejaaalkglaa.X
set_option linter.unusedVariables false
open Go Go.RowKit
section steps
variable {P : Program} {n : Nat} {ops : Array Oper} {Q : Post} {rest : List Oper} {ρ : Env} {w : World} {ty : TypeId} {pos : String} {af : Array Edge} {d : Nat}
variable {t e : TypeId} {x lo hi : Operand} {b o len cap sz o' m' c' : Nat} {kl kh : IntKind} {l h : Int}
theorem sllhN (o' m' c' : Nat) (hx : ev ρ x = .slice (some ⟨b, o, none⟩) len cap) (h1 : ev ρ lo = .int kl l) (h2 : ev ρ hi = .int kh h) (hu : P.underlying t = some (.slice e)) (hs : sizeB P e sz = true) (hb : 0 ≤ l ∧ l ≤ h ∧ h ≤ cap ∧ l < cap) (ho : o + l.toNat * sz = o' ∧ h.toNat - l.toNat = m' ∧ cap - l.toNat = c') (hn : Nat.blt d n = true)
    (kk : wl P n ops Q rest (upd ρ d (.slice (some ⟨b, o', none⟩) m' c')) w) : wl P n ops Q (⟨some d, .slice t x (some lo) (some hi) none, ty, pos, af, none⟩ :: rest) ρ w :=
  sllh hx h1 h2 hu hs hb hn (by rw [ho.1, ho.2.1, ho.2.2]; exact kk)
theorem sllN (o' m' c' : Nat) (hx : ev ρ x = .slice (some ⟨b, o, none⟩) len cap) (h1 : ev ρ lo = .int kl l) (hu : P.underlying t = some (.slice e)) (hs : sizeB P e sz = true) (hb : 0 ≤ l ∧ l ≤ len ∧ l < cap) (ho : o + l.toNat * sz = o' ∧ len - l.toNat = m' ∧ cap - l.toNat = c') (hn : Nat.blt d n = true)
    (kk : wl P n ops Q rest (upd ρ d (.slice (some ⟨b, o', none⟩) m' c')) w) : wl P n ops Q (⟨some d, .slice t x (some lo) none none, ty, pos, af, none⟩ :: rest) ρ w :=
  sll hx h1 hu hs hb hn (by rw [ho.1, ho.2.1, ho.2.2]; exact kk)
theorem slhN {A : Option Addr} (m' : Nat) (hx : ev ρ x = .slice A len cap) (h2 : ev ρ hi = .int kh h) (hu : P.underlying t = some (.slice e)) (hs : sizeB P e sz = true) (hb : 0 ≤ h ∧ h ≤ cap) (ho : h.toNat = m') (hn : Nat.blt d n = true)
    (kk : wl P n ops Q rest (upd ρ d (.slice A m' cap)) w) : wl P n ops Q (⟨some d, .slice t x none (some hi) none, ty, pos, af, none⟩ :: rest) ρ w :=
  slh hx h2 hu hs hb hn (by rw [ho]; exact kk)
theorem iaN {i : Operand} {j : IntKind} {z : Int} (o' : Nat) (hx : ev ρ x = .slice (some ⟨b, o, none⟩) len cap) (hi : ev ρ i = .int j z) (hu : P.underlying t = some (.slice e)) (hs : sizeB P e sz = true) (hz : 0 ≤ z ∧ z < len) (ho : o + z.toNat * sz = o') (hn : Nat.blt d n = true) (kk : wl P n ops Q rest (upd ρ d (.pointer (some ⟨b, o', none⟩))) w) : wl P n ops Q (⟨some d, .indexAddr t x i, ty, pos, af, none⟩ :: rest) ρ w :=
  ia hx hi hu hs hz hn (by rw [ho]; exact kk)
theorem iyN {i : Operand} {j : IntKind} {z : Int} (o' : Nat) (hx : ev ρ x = .pointer (some ⟨b, o, none⟩)) (hi : ev ρ i = .int j z) (hu : P.underlying t = some (.array len e)) (hs : sizeB P e sz = true) (hz : 0 ≤ z ∧ z < len) (ho : o + z.toNat * sz = o') (hn : Nat.blt d n = true) (kk : wl P n ops Q rest (upd ρ d (.pointer (some ⟨b, o', none⟩))) w) : wl P n ops Q (⟨some d, .indexAddr t x i, ty, pos, af, none⟩ :: rest) ρ w :=
  iy hx hi hu hs hz hn (by rw [ho]; exact kk)
/-- A byte is read whose place and value are said. -/
theorem ldbN {w0 : World} {S : List Nat} {L : List Ent} {T : TypeId} {fr : Nat × Nat} {bs : List UInt8} (u : UInt8) (H : SH w0 S w L) (hx : ev ρ x = .pointer (some ⟨b, o, none⟩)) [Look L b (.cells (Bs bs).toArray T fr)] (hs : scalarB P t = true) (ho : bs[o]? = some u) (hn : Nat.blt d n = true) (kk : wl P n ops Q rest (upd ρ d (.int .u8 (u.toNat : Int))) w) : wl P n ops Q (⟨some d, .load t x, ty, pos, af, none⟩ :: rest) ρ w :=
  ld (cs := Bs bs) (v := .int .u8 (u.toNat : Int)) H hx hs (by simp [Bs, u8v, ho]) hn kk
/-- A value that is known stays; another name for it. -/
theorem mvN {v v' : Value} (hx : ev ρ x = v) (he : v = v') (hn : Nat.blt d n = true) (k : wl P n ops Q rest (upd ρ d v') w) : wl P n ops Q (⟨some d, .move x, ty, pos, af, none⟩ :: rest) ρ w :=
  mv hx hn (by rw [he]; exact k)
theorem asgN {v v' : Value} (hx : ev ρ x = v) (he : v = v') (hn : Nat.blt d n = true) (k : wl P n ops Q rest (upd ρ d v') w) : wl P n ops Q (⟨some d, .assign x, ty, pos, af, none⟩ :: rest) ρ w :=
  asg hx hn (by rw [he]; exact k)
/-- A slice of an array. -/
theorem slY (hx : ev ρ x = .pointer (some ⟨b, o, none⟩)) (hu : P.underlying t = some (.array len e)) (hs : sizeB P e sz = true) (hb : 0 < len) (hn : Nat.blt d n = true)
    (kk : wl P n ops Q rest (upd ρ d (.slice (some ⟨b, o, none⟩) len len)) w) : wl P n ops Q (⟨some d, .slice t x none none none, ty, pos, af, none⟩ :: rest) ρ w :=
  val rfl rfl hn (by
    simp [execOp, hx, Instr.sliceAt, run_underlying hu, Instr.sureAddr, Instr.sliceBounds, run_sizeOf hs, Addr.add]) kk
theorem slYlh (hx : ev ρ x = .pointer (some ⟨b, o, none⟩)) (h1 : ev ρ lo = .int kl l) (h2 : ev ρ hi = .int kh h) (hu : P.underlying t = some (.array len e)) (hs : sizeB P e sz = true) (hb : 0 ≤ l ∧ l ≤ h ∧ h ≤ len ∧ l < len) (hn : Nat.blt d n = true)
    (kk : wl P n ops Q rest (upd ρ d (.slice (some ⟨b, o + l.toNat * sz, none⟩) (h.toNat - l.toNat) (len - l.toNat))) w) : wl P n ops Q (⟨some d, .slice t x (some lo) (some hi) none, ty, pos, af, none⟩ :: rest) ρ w :=
  val rfl rfl hn (by
    obtain ⟨j, rfl⟩ := Int.eq_ofNat_of_zero_le (show 0 ≤ h by omega)
    have e2 : ¬ len = l.toNat := by omega
    have e3 : j ≤ len := by omega
    simp [execOp, hx, h1, h2, Instr.sliceAt, run_underlying hu, Instr.sureAddr, Instr.sliceBounds, Instr.sliceBound, asIntOf, hb.1, hb.2.1, e3, run_sizeOf hs, e2, Addr.add_lit]) kk
/-- A field's address, whatever the struct's. -/
theorem r_faG {s f k : Nat} {x : Operand} {ad : Addr} {dd : Option Nat} {gg : Option (Nat × Bool)} (hx : ev ρ x = .pointer (some ad)) (hf : fieldOff P s f = some k) : (execOp (ev ρ) ⟨dd, .fieldAddr s x f, ty, pos, af, gg⟩).run P w = .ok (.value (.pointer (some (ad.add k)))) w := by simp [execOp, hx, fieldOff_run hf]
theorem faG {s f k : Nat} {x : Operand} {ad : Addr} (hx : ev ρ x = .pointer (some ad)) (hf : fieldOff P s f = some k) (hn : Nat.blt d n = true) (kk : wl P n ops Q rest (upd ρ d (.pointer (some (ad.add k)))) w) : wl P n ops Q (⟨some d, .fieldAddr s x f, ty, pos, af, none⟩ :: rest) ρ w :=
  val rfl rfl hn (r_faG hx hf) kk
/-- An element's address, whatever the slice's; said by the one who uses it. -/
theorem iBN {i : Operand} {ad : Addr} {j : IntKind} {z : Int} (ad' : Addr) (hx : ev ρ x = .slice (some ad) len cap) (hi : ev ρ i = .int j z) (hu : P.underlying t = some (.slice e)) (hs : sizeB P e sz = true) (hz : 0 ≤ z ∧ z < len) (ho : ad.add (z.toNat * sz) = ad') (hn : Nat.blt d n = true) (kk : wl P n ops Q rest (upd ρ d (.pointer (some ad'))) w) : wl P n ops Q (⟨some d, .indexAddr t x i, ty, pos, af, none⟩ :: rest) ρ w :=
  iB hx hi hu hs hz hn (by rw [ho]; exact kk)
/-- Is an interface's value there? -/
def isIf : Value → Bool
  | .iface _ _ => true
  | _ => false
def Ifc (e : Value) : Prop := e = .nilIface ∨ ∃ t v, e = .iface t v
theorem neqIG {t u : TypeId} {ms : Array (String × TypeId)} {x : Operand} {e : Value} (hx : ev ρ x = e) (hu : P.underlying t = some (.interface ms)) (he : Ifc e) (hn : Nat.blt d n = true) (kk : wl P n ops Q rest (upd ρ d (.bool (isIf e))) w) : wl P n ops Q (⟨some d, .binOp .neq t x (.const .nilIface) u, ty, pos, af, none⟩ :: rest) ρ w := by
  rcases he with rfl | ⟨s, v, rfl⟩
  · exact neqI0 hx hu hn kk
  · exact neqI1 hx hu hn kk
theorem eqlIG {t u : TypeId} {ms : Array (String × TypeId)} {x : Operand} {e : Value} (hx : ev ρ x = e) (hu : P.underlying t = some (.interface ms)) (he : Ifc e) (hn : Nat.blt d n = true) (kk : wl P n ops Q rest (upd ρ d (.bool (!isIf e))) w) : wl P n ops Q (⟨some d, .binOp .eql t x (.const .nilIface) u, ty, pos, af, none⟩ :: rest) ρ w := by
  rcases he with rfl | ⟨s, v, rfl⟩
  · exact eqlI0 hx hu hn kk
  · exact eqlI1 hx hu hn kk
theorem isIf_f {e : Value} (h : isIf e = false) (he : Ifc e) : e = .nilIface := by
  rcases he with rfl | ⟨s, v, rfl⟩
  · rfl
  · cases h
section
variable {dd : Option Nat} {gg : Option (Nat × Bool)}
theorem r_sllhN (o' m' c' : Nat) (hx : ev ρ x = .slice (some ⟨b, o, none⟩) len cap) (h1 : ev ρ lo = .int kl l) (h2 : ev ρ hi = .int kh h) (hu : P.underlying t = some (.slice e)) (hs : sizeB P e sz = true) (hb : 0 ≤ l ∧ l ≤ h ∧ h ≤ cap ∧ l < cap) (ho : o + l.toNat * sz = o' ∧ h.toNat - l.toNat = m' ∧ cap - l.toNat = c') : (execOp (ev ρ) ⟨dd, .slice t x (some lo) (some hi) none, ty, pos, af, gg⟩).run P w = .ok (.value (.slice (some ⟨b, o', none⟩) m' c')) w := by
  rw [← ho.1, ← ho.2.1, ← ho.2.2]; exact r_sllh hx h1 h2 hu hs hb
theorem r_sllN (o' m' c' : Nat) (hx : ev ρ x = .slice (some ⟨b, o, none⟩) len cap) (h1 : ev ρ lo = .int kl l) (hu : P.underlying t = some (.slice e)) (hs : sizeB P e sz = true) (hb : 0 ≤ l ∧ l ≤ len ∧ l < cap) (ho : o + l.toNat * sz = o' ∧ len - l.toNat = m' ∧ cap - l.toNat = c') : (execOp (ev ρ) ⟨dd, .slice t x (some lo) none none, ty, pos, af, gg⟩).run P w = .ok (.value (.slice (some ⟨b, o', none⟩) m' c')) w := by
  rw [← ho.1, ← ho.2.1, ← ho.2.2]; exact r_sll hx h1 hu hs hb
theorem r_slhN {A : Option Addr} (m' : Nat) (hx : ev ρ x = .slice A len cap) (h2 : ev ρ hi = .int kh h) (hu : P.underlying t = some (.slice e)) (hs : sizeB P e sz = true) (hb : 0 ≤ h ∧ h ≤ cap) (ho : h.toNat = m') : (execOp (ev ρ) ⟨dd, .slice t x none (some hi) none, ty, pos, af, gg⟩).run P w = .ok (.value (.slice A m' cap)) w := by
  rw [← ho]; exact r_slh hx h2 hu hs hb
theorem r_iaN {i : Operand} {j : IntKind} {z : Int} (o' : Nat) (hx : ev ρ x = .slice (some ⟨b, o, none⟩) len cap) (hi : ev ρ i = .int j z) (hu : P.underlying t = some (.slice e)) (hs : sizeB P e sz = true) (hz : 0 ≤ z ∧ z < len) (ho : o + z.toNat * sz = o') : (execOp (ev ρ) ⟨dd, .indexAddr t x i, ty, pos, af, gg⟩).run P w = .ok (.value (.pointer (some ⟨b, o', none⟩))) w := by
  rw [← ho]; exact r_ia hx hi hu hs hz
theorem r_iyN {i : Operand} {j : IntKind} {z : Int} (o' : Nat) (hx : ev ρ x = .pointer (some ⟨b, o, none⟩)) (hi : ev ρ i = .int j z) (hu : P.underlying t = some (.array len e)) (hs : sizeB P e sz = true) (hz : 0 ≤ z ∧ z < len) (ho : o + z.toNat * sz = o') : (execOp (ev ρ) ⟨dd, .indexAddr t x i, ty, pos, af, gg⟩).run P w = .ok (.value (.pointer (some ⟨b, o', none⟩))) w := by
  rw [← ho]; exact r_iy hx hi hu hs hz
theorem r_mvN {v v' : Value} (hx : ev ρ x = v) (he : v = v') : (execOp (ev ρ) ⟨dd, .move x, ty, pos, af, gg⟩).run P w = .ok (.value v') w := by
  rw [← he]; exact r_mv hx
theorem r_asgN {v v' : Value} (hx : ev ρ x = v) (he : v = v') : (execOp (ev ρ) ⟨dd, .assign x, ty, pos, af, gg⟩).run P w = .ok (.value v') w := by
  rw [← he]; exact r_asg hx
theorem r_slY (hx : ev ρ x = .pointer (some ⟨b, o, none⟩)) (hu : P.underlying t = some (.array len e)) (hs : sizeB P e sz = true) (hb : 0 < len) : (execOp (ev ρ) ⟨dd, .slice t x none none none, ty, pos, af, gg⟩).run P w = .ok (.value (.slice (some ⟨b, o, none⟩) len len)) w := by
  simp [execOp, hx, Instr.sliceAt, run_underlying hu, Instr.sureAddr, Instr.sliceBounds, run_sizeOf hs, Addr.add]
theorem r_slYlh (hx : ev ρ x = .pointer (some ⟨b, o, none⟩)) (h1 : ev ρ lo = .int kl l) (h2 : ev ρ hi = .int kh h) (hu : P.underlying t = some (.array len e)) (hs : sizeB P e sz = true) (hb : 0 ≤ l ∧ l ≤ h ∧ h ≤ len ∧ l < len) : (execOp (ev ρ) ⟨dd, .slice t x (some lo) (some hi) none, ty, pos, af, gg⟩).run P w = .ok (.value (.slice (some ⟨b, o + l.toNat * sz, none⟩) (h.toNat - l.toNat) (len - l.toNat))) w := by
  obtain ⟨j, rfl⟩ := Int.eq_ofNat_of_zero_le (show 0 ≤ h by omega)
  have e2 : ¬ len = l.toNat := by omega
  have e3 : j ≤ len := by omega
  simp [execOp, hx, h1, h2, Instr.sliceAt, run_underlying hu, Instr.sureAddr, Instr.sliceBounds, Instr.sliceBound, asIntOf, hb.1, hb.2.1, e3, run_sizeOf hs, e2, Addr.add_lit]
end
end steps
end Go.Proofs.Ythcaejaaalkglaa.X
/- Symbolic heaps put together: what a call has made, and what was there. -/
namespace Go.Proofs.Ythcaejaaalkglaa.X
set_option linter.unusedVariables false
open Go Go.RowKit
theorem SH.perm {w0 w : World} {S : List Nat} {L L' : List Ent} (H : SH w0 S w L) (h : L.Perm L') : SH w0 S w L' :=
  ⟨H.fr, fun x hx => H.get x (h.mem_iff.2 hx), h.pairwise H.ap (fun {x y} hxy hm => (hxy (by rw [Bool.or_comm]; exact hm)).symm), fun x hx => H.mu x (h.mem_iff.2 hx)⟩
/-- What a call has made, beside what was known. -/
theorem SH.join {w0 w w' : World} {S : List Nat} {L N : List Ent} (H : SH w0 S w L) (K : SH w [] w' N) (hm : ∀ x ∈ N, x.m = true) : SH w0 S w' (N ++ L) := by
  have H' := H.keep K.fr
  refine ⟨H'.fr, ?_, ?_, ?_⟩
  · intro x hx
    rcases List.mem_append.1 hx with hx | hx
    · exact K.get x hx
    · exact H'.get x hx
  · rw [List.pairwise_append]
    refine ⟨K.ap, H'.ap, fun x hx y hy _ => ?_⟩
    have h1 := (K.mu x hx (hm x hx)).resolve_left (by simp)
    have h2 := lt_of_at (H.get y hy)
    omega
  · intro x hx hxm
    rcases List.mem_append.1 hx with hx | hx
    · have h1 := (K.mu x hx (hm x hx)).resolve_left (by simp)
      exact .inr (Nat.le_trans H.size h1)
    · exact H'.mu x hx hxm
/-- What is known of some blocks, of which those of T may be written by a call: the call's own heap. -/
theorem SH.sub_call {w0 w : World} {S : List Nat} {L : List Ent} (H : SH w0 S w L) {M : List Ent} (hM : ∀ x ∈ M, x ∈ L) (hp : M.Pairwise fun x y => (x.m || y.m) = true → x.b ≠ y.b) (T : List Nat) (hT : ∀ x ∈ M, x.m = true → x.b ∈ T) : SH w T w M :=
  SH.init T M (fun x hx => H.get x (hM x hx)) hp hT
theorem SH.pair_sub {w0 w : World} {S : List Nat} {L M : List Ent} (H : SH w0 S w L) (h : List.Sublist M L) : M.Pairwise fun x y => (x.m || y.m) = true → x.b ≠ y.b := H.ap.sublist h
/-- A call's own heap, seen from its caller's beginning. -/
theorem SH.back {w w1 w' : World} {N : List Ent} (F : Fr [] w w1) (K : SH w1 [] w' N) : SH w [] w' N :=
  ⟨F.trans K.fr, K.get, K.ap, fun x hx hm => .inr (Nat.le_trans F.size ((K.mu x hx hm).resolve_left (by simp)))⟩
end Go.Proofs.Ythcaejaaalkglaa.X
/- Rows of pointers, each to a block of its own. -/
namespace Go.Proofs.Ythcaejaaalkglaa.X
set_option linter.unusedVariables false
open Go Go.RowKit
abbrev PL := List (Nat × List Value)
def ents (T : TypeId) (l : PL) : List Ent := l.map fun x => ⟨x.1, .cells x.2.toArray T (0, 0), true⟩
def ptrs (l : PL) : List Value := l.map fun x => .pointer (some ⟨x.1, 0, none⟩)
theorem ptrs_len (l : PL) : (ptrs l).length = l.length := by simp [ptrs]
theorem ptrs_get {l : PL} {i : Nat} {x : Nat × List Value} (h : l[i]? = some x) : (ptrs l)[i]? = some (.pointer (some ⟨x.1, 0, none⟩)) := by simp [ptrs, h]
theorem ptrs_snoc (l : PL) (x : Nat × List Value) : ptrs (l ++ [x]) = ptrs l ++ [.pointer (some ⟨x.1, 0, none⟩)] := by simp [ptrs]
theorem ptrs_one {l : PL} : ∀ u ∈ ptrs l, u.oneCell' = true := by
  intro u hu
  obtain ⟨x, _, rfl⟩ := List.mem_map.1 hu
  rfl
theorem ents_snoc (T : TypeId) (l : PL) (x : Nat × List Value) : ents T (l ++ [x]) = ents T l ++ [⟨x.1, .cells x.2.toArray T (0, 0), true⟩] := by simp [ents]
theorem ents_m {T : TypeId} {l : PL} : ∀ x ∈ ents T l, x.m = true := by
  intro u hu
  obtain ⟨x, _, rfl⟩ := List.mem_map.1 hu
  rfl
theorem ents_mem {T : TypeId} {l : PL} {i : Nat} {x : Nat × List Value} (h : l[i]? = some x) : (⟨x.1, .cells x.2.toArray T (0, 0), true⟩ : Ent) ∈ ents T l :=
  List.mem_map.2 ⟨x, List.mem_of_getElem? h, rfl⟩
/-- A block of the row's. -/
theorem SH.ptr {w0 w : World} {S : List Nat} {L : List Ent} {T : TypeId} {l : PL} (H : SH w0 S w L) (hs : ∀ e ∈ ents T l, e ∈ L) {i : Nat} {x : Nat × List Value} (h : l[i]? = some x) : w.heap[x.1]? = some (.cells x.2.toArray T (0, 0)) :=
  H.get _ (hs _ (ents_mem h))
theorem OR.perm {e : TypeId} {sz : Nat} {w0 : World} {S : List Nat} {w : World} {L L' : List Ent} {A : Option Addr} {n cap : Nat} {xs : List Value} (O : OR e sz w0 S w L A n cap xs) (h : L.Perm L') : OR e sz w0 S w L' A n cap xs :=
  ⟨O.len, O.sh.perm h, O.own.imp id fun ⟨b, cur, h1, h2, h3, h4, h5, h6⟩ => ⟨b, cur, h1, h2, h3, h4, h5, h6.perm (List.Perm.cons _ h)⟩⟩
theorem OR.sub {e : TypeId} {sz : Nat} {w0 : World} {S : List Nat} {w : World} {L L' : List Ent} {A : Option Addr} {n cap : Nat} {xs : List Value} (O : OR e sz w0 S w L A n cap xs) (h : List.Sublist L' L) : OR e sz w0 S w L' A n cap xs :=
  ⟨O.len, O.sh.sub h, O.own.imp id fun ⟨b, cur, h1, h2, h3, h4, h5, h6⟩ => ⟨b, cur, h1, h2, h3, h4, h5, h6.sub (h.cons_cons _)⟩⟩
theorem OR.drew {e : TypeId} {sz : Nat} {w0 : World} {S : List Nat} {w : World} {L : List Ent} {A : Option Addr} {n cap : Nat} {xs : List Value} (O : OR e sz w0 S w L A n cap xs) : OR e sz w0 S w.drew L A n cap xs := O.keep (Fr.drew _ _)
/-- A new block goes to the row's end. -/
theorem perm_snoc {T : TypeId} {l : PL} {x : Nat × List Value} (L : List Ent) : ((⟨x.1, .cells x.2.toArray T (0, 0), true⟩ : Ent) :: (L ++ ents T l)).Perm (L ++ ents T (l ++ [x])) := by
  rw [ents_snoc, ← List.append_assoc]
  exact (List.perm_append_comm (l₁ := [(⟨x.1, .cells x.2.toArray T (0, 0), true⟩ : Ent)]) (l₂ := L ++ ents T l))
theorem perm_snoc1 {T : TypeId} {l : PL} {p : Nat} {cs : List Value} (e : Ent) : ((⟨p, .cells cs.toArray T (0, 0), true⟩ : Ent) :: e :: ents T l).Perm (e :: ents T (l ++ [(p, cs)])) := perm_snoc (x := (p, cs)) [e]
/-- What was in the row's block. -/
theorem row_ptr {l : PL} {junk : List Value} {i : Nat} {x : Nat × List Value} (h : l[i]? = some x) : (ptrs l ++ junk)[i]? = some (.pointer (some ⟨x.1, 0, none⟩)) := by
  have hi := (List.getElem?_eq_some_iff.1 h).1
  rw [List.getElem?_append_left (by rw [ptrs_len]; exact hi)]
  exact ptrs_get h
theorem row_ptr' {l : PL} {junk : List Value} {i k : Nat} {x : Nat × List Value} (h : l[i]? = some x) (e : k = i) : (ptrs l ++ junk)[k]? = some (.pointer (some ⟨x.1, 0, none⟩)) := e ▸ row_ptr h
theorem sh_cells1 {w0 w : World} {S : List Nat} {b c : Nat} {T T' : TypeId} {L : List Ent} {cs cs' ds : List Value} {m m' : Bool} {fr fr' : Nat × Nat} (H : SH w0 S w (⟨c, .cells ds.toArray T' fr', m'⟩ :: ⟨b, .cells cs.toArray T fr, m⟩ :: L)) (e : cs = cs') : SH w0 S w (⟨c, .cells ds.toArray T' fr', m'⟩ :: ⟨b, .cells cs'.toArray T fr, m⟩ :: L) := e ▸ H
theorem Bs_one {bs : List UInt8} : ∀ u ∈ Bs bs, u.oneCell' = true := by
  intro u hu
  obtain ⟨b, _, rfl⟩ := List.mem_map.1 hu
  rfl
theorem Bs_app (xs ys : List UInt8) : Bs xs ++ Bs ys = Bs (xs ++ ys) := by simp [Bs]
/-- A row that a call has made. -/
theorem OR.join {e : TypeId} {sz : Nat} {w0 w w' : World} {S : List Nat} {L : List Ent} {A : Option Addr} {n cap : Nat} {xs : List Value} (O : OR e sz w [] w' [] A n cap xs) (H : SH w0 S w L) : OR e sz w0 S w' L A n cap xs :=
  ⟨O.len, H.keep O.sh.fr, O.own.imp id fun ⟨b, cur, h1, h2, h3, h4, h5, h6⟩ => ⟨b, cur, h1, h2, h3, h4, h5, H.join h6 (by simp)⟩⟩
/-- .. seen from further back. -/
theorem OR.back {e : TypeId} {sz : Nat} {w w1 w' : World} {A : Option Addr} {n cap : Nat} {xs : List Value} (F : Fr [] w w1) (O : OR e sz w1 [] w' [] A n cap xs) : OR e sz w [] w' [] A n cap xs :=
  ⟨O.len, SH.back F O.sh, O.own.imp id fun ⟨b, cur, h1, h2, h3, h4, h5, h6⟩ => ⟨b, cur, h1, h2, h3, h4, h5, SH.back F h6⟩⟩
theorem OR.some_of {e : TypeId} {sz : Nat} {w0 : World} {S : List Nat} {w : World} {L : List Ent} {A : Option Addr} {n cap : Nat} {xs : List Value} (O : OR e sz w0 S w L A n cap xs) (h : 0 < n) : ∃ ad, A = some ad := by
  rcases O.own with ⟨_, rfl, _⟩ | ⟨b, cur, rfl, _⟩
  · omega
  · exact ⟨_, rfl⟩
/-- An element of one cell. -/
theorem OR.one {e : TypeId} {w0 : World} {S : List Nat} {w : World} {L : List Ent} {ad : Addr} {n cap i : Nat} {xs : List Value} {v : Value} (O : OR e 1 w0 S w L (some ad) n cap xs) (h : xs[i]? = some v) : w.cell? (ad.add i) = some v := by
  obtain ⟨ad', he, hc⟩ := O.cells i v h
  obtain rfl := Option.some.inj he
  exact hc
/-- Bytes, and what lies behind them. -/
theorem BJ_len {xs : List UInt8} {junk : List Value} : (Bs xs ++ junk).length = xs.length + junk.length := by simp
theorem BJ_get {xs : List UInt8} {junk : List Value} {i : Nat} (h : i < xs.length) : (Bs xs ++ junk)[i]? = some (.int .u8 ((xs.getD i 0).toNat : Int)) := by
  rw [List.getElem?_append_left (by simpa using h)]; exact Bs_get h
theorem BJ_set {xs : List UInt8} {junk : List Value} {i : Nat} {u : UInt8} (h : i < xs.length) : (Bs xs ++ junk).set i (.int .u8 (u.toNat : Int)) = Bs (xs.set i u) ++ junk := by
  rw [List.set_append_left _ _ (by simpa using h)]
  rw [← Bs_set]; rfl
theorem sh_cells0 {w0 w : World} {S : List Nat} {b : Nat} {T : TypeId} {L : List Ent} {cs cs' : List Value} {m : Bool} {fr : Nat × Nat} (H : SH w0 S w (⟨b, .cells cs.toArray T fr, m⟩ :: L)) (e : cs = cs') : SH w0 S w (⟨b, .cells cs'.toArray T fr, m⟩ :: L) := e ▸ H
theorem RB.cells {w : World} {B : Option Addr} {n : Nat} {b : List UInt8} (h : RB w B n b) : ∀ j u, (Bs b)[j]? = some u → ∃ ad, B = some ad ∧ w.cell? (ad.add j) = some u := by
  intro j u hu
  have hj : j < b.length := by simpa using (List.getElem?_eq_some_iff.1 hu).1
  rw [Bs_get hj] at hu
  obtain rfl := Option.some.inj hu
  exact h.2 j (by rw [← h.1]; exact hj)
/-- Bytes ahead of what lies behind them. -/
theorem RB.bj {w0 w : World} {S : List Nat} {L : List Ent} {b m : Nat} {xs : List UInt8} {junk : List Value} {T : TypeId} {fr : Nat × Nat} (H : SH w0 S w L) [k : Look L b (.cells (Bs xs ++ junk).toArray T fr)] (e : xs.length = m) : RB w (some ⟨b, 0, none⟩) m xs := by
  have hb := H.look (b := b) (o := .cells (Bs xs ++ junk).toArray T fr)
  refine ⟨e, fun i hi => ⟨_, rfl, ?_⟩⟩
  rw [Addr.add_lit, cell_at hb, Nat.zero_add]
  exact BJ_get (by omega)
theorem RB.at {w : World} {ad : Addr} {n : Nat} {xs : List UInt8} (h : RB w (some ad) n xs) (i : Nat) (hi : i < n) : w.cell? (ad.add i) = some (.int .u8 ((xs.getD i 0).toNat : Int)) := by
  obtain ⟨ad', e, hx⟩ := h.2 i hi
  cases e; exact hx
theorem take_split {cur l : List Value} {n : Nat} (h : cur.take n = l) : ∃ junk, cur = l ++ junk := ⟨cur.drop n, by rw [← h, List.take_append_drop]⟩
end Go.Proofs.Ythcaejaaalkglaa.X
/- Pairs of numbers compared. -/
namespace Go.Proofs.Ythcaejaaalkglaa.X
open Go
set_option linter.unusedVariables false
set_option linter.unusedSimpArgs false
theorem run_eq_pair {P : Program} {w : World} {t e : TypeId} {k : IntKind} {a b c d : Int} (hu : P.underlying t = some (.array 2 e)) (he : P.underlying e = some (.int k)) (hs : sizeB P e 1 = true) (hsc : scalarB P e = true) : (Op.equal t (.agg #[.int k a, .int k b]) (.agg #[.int k c, .int k d])).run P w = .ok (a == c && b == d) w := by
  unfold Op.equal
  rw [show Op.maxDepth = 9998 + 1 + 1 from rfl, Op.equalIn]
  have h1 : ∀ (xs : Array Value) (i : Nat) (v : Value), xs[i]? = some v → (part e xs i).run P w = .ok v w := fun xs i v h => by
    simp [part, run_isAgg_scalar hsc, h]
  simp only [Sem.run_bind, run_underlying hu, Result.andThen_ok, run_sizeOf hs, Std.Legacy.Range.forIn_eq_forIn_range', Std.Legacy.Range.size]
  simp [List.range', h1 #[.int k a, .int k b] 0 (.int k a) rfl, h1 #[.int k a, .int k b] 1 (.int k b) rfl, h1 #[.int k c, .int k d] 0 (.int k c) rfl, h1 #[.int k c, .int k d] 1 (.int k d) rfl, run_equalIn_int w _ e k k _ _ he]
  cases h : (a == c) <;> cases h' : (b == d) <;> simp_all
section steps
variable {P : Program} {n : Nat} {ops : Array Oper} {Q : Post} {rest : List Oper} {ρ : Env} {w : World} {ty : TypeId} {pos : String} {af : Array Edge} {d : Nat}
theorem r_neqPr {t u e : TypeId} {x y : Operand} {k : IntKind} {a b c c' : Int} {dd : Option Nat} {gg : Option (Nat × Bool)} (hx : ev ρ x = .agg [.int k a, .int k b].toArray) (hy : ev ρ y = .agg [.int k c, .int k c'].toArray) (hg : P.eqGuardType P.depth t = false) (hu : P.underlying t = some (.array 2 e)) (he : P.underlying e = some (.int k)) (hs : sizeB P e 1 = true) (hsc : scalarB P e = true) : (execOp (ev ρ) ⟨dd, .binOp .neq t x y u, ty, pos, af, gg⟩).run P w = .ok (.value (.bool (decide (¬ (a = c ∧ b = c'))))) w := by
  have h := run_eqGuard_agg (P := P) w .neq t x y #[.int k a, .int k b] #[.int k c, .int k c'] hg
  have h2 := run_eq_pair (w := w) (a := a) (b := b) (c := c) (d := c') hu he hs hsc
  have e2 : (binOp .neq t (.agg #[.int k a, .int k b]) (.agg #[.int k c, .int k c'])).run P w = .ok (.bool (!(a == c && b == c'))) w := by
    simp only [binOp]
    simp [h2]
  have e3 : (!(a == c && b == c')) = decide (¬ (a = c ∧ b = c')) := by
    by_cases h1 : a = c <;> by_cases h2 : b = c' <;> simp [h1, h2]
  rw [e3] at e2
  simp only [execOp, hx, hy, Sem.run_bind, h, Result.andThen_ok, e2, Sem.run_pure, Sem.run_map]
theorem neqPr {t u e : TypeId} {x y : Operand} {k : IntKind} {a b c c' : Int} (hx : ev ρ x = .agg [.int k a, .int k b].toArray) (hy : ev ρ y = .agg [.int k c, .int k c'].toArray) (hg : P.eqGuardType P.depth t = false) (hu : P.underlying t = some (.array 2 e)) (he : P.underlying e = some (.int k)) (hs : sizeB P e 1 = true) (hsc : scalarB P e = true) (hn : Nat.blt d n = true) (kk : wl P n ops Q rest (upd ρ d (.bool (decide (¬ (a = c ∧ b = c'))))) w) : wl P n ops Q (⟨some d, .binOp .neq t x y u, ty, pos, af, none⟩ :: rest) ρ w :=
  val rfl rfl hn (r_neqPr hx hy hg hu he hs hsc) kk
end steps
end Go.Proofs.Ythcaejaaalkglaa.X
/- Arrays of numbers compared. -/
namespace Go.Proofs.Ythcaejaaalkglaa.X
open Go
set_option linter.unusedVariables false
set_option linter.unusedSimpArgs false
theorem run_eq_ints {P : Program} {w : World} {t e : TypeId} {k : IntKind} {n : Nat} {xs1 xs2 : List Int} (hu : P.underlying t = some (.array n e)) (he : P.underlying e = some (.int k)) (hs : sizeB P e 1 = true) (hsc : scalarB P e = true) (ha : xs1.length = n) (hb : xs2.length = n) :
    (Op.equal t (.agg (xs1.map (Value.int k)).toArray) (.agg (xs2.map (Value.int k)).toArray)).run P w = .ok (decide (xs1 = xs2)) w := by
  unfold Op.equal
  rw [show Op.maxDepth = 9998 + 1 + 1 from rfl, Op.equalIn]
  have h1 : ∀ (xs : Array Value) (i : Nat) (v : Value), xs[i]? = some v → (part e xs i).run P w = .ok v w := fun xs i v h => by
    simp [part, run_isAgg_scalar hsc, h]
  have hg : ∀ (l : List Int) (i : Nat) (h : i < l.length), (l.map (Value.int k)).toArray[i]? = some (.int k l[i]) := fun l i h => by simp [h]
  simp only [Sem.run_bind, run_underlying hu, Result.andThen_ok, run_sizeOf hs, Std.Legacy.Range.forIn_eq_forIn_range', Std.Legacy.Range.size]
  simp only [Nat.sub_zero, Nat.add_sub_cancel, Nat.div_one]
  have hP : ∃ s, List.range' 0 n 1 = List.range' s (List.range' 0 n 1).length 1 ∧ s + (List.range' 0 n 1).length = n ∧ xs1.take s = xs2.take s := ⟨0, by simp, by simp, by simp⟩
  generalize List.range' 0 n 1 = l at hP ⊢
  induction l with
  | nil =>
    obtain ⟨s, h2, h3, h4⟩ := hP
    have : xs1 = xs2 := by
      simp at h3
      rw [List.take_of_length_le (by omega), List.take_of_length_le (by omega)] at h4; exact h4
    simp [this]
  | cons i l ih =>
    obtain ⟨s, h2, h3, h4⟩ := hP
    simp only [List.length_cons, List.range'_succ, List.cons.injEq] at h2 h3
    obtain ⟨rfl, h2⟩ := h2
    have hsa : i < xs1.length := by omega
    have hsb : i < xs2.length := by omega
    simp only [List.forIn_cons, Sem.run_bind, Nat.mul_one, h1 _ _ _ (hg xs1 i hsa), h1 _ _ _ (hg xs2 i hsb), Result.andThen_ok, run_equalIn_int w _ e k k _ _ he]
    by_cases hc : xs1[i] = xs2[i]
    · have ht' : xs1.take (i + 1) = xs2.take (i + 1) := by
        rw [List.take_add_one, List.take_add_one, h4]; simp [hsa, hsb, hc]
      have := ih ⟨i + 1, by simpa using h2, by omega, ht'⟩
      simp only [Nat.mul_one] at this
      simpa [hc] using this
    · have hne : xs1 ≠ xs2 := fun e => hc (by subst e; rfl)
      simp [hc, hne]
section steps
variable {P : Program} {n : Nat} {ops : Array Oper} {Q : Post} {rest : List Oper} {ρ : Env} {w : World} {ty : TypeId} {pos : String} {af : Array Edge} {d : Nat}
theorem r_neqAr {t u e : TypeId} {x y : Operand} {k : IntKind} {m : Nat} {xs1 xs2 : List Int} {dd : Option Nat} {gg : Option (Nat × Bool)} (hx : ev ρ x = .agg (xs1.map (Value.int k)).toArray) (hy : ev ρ y = .agg (xs2.map (Value.int k)).toArray) (hg : P.eqGuardType P.depth t = false) (hu : P.underlying t = some (.array m e)) (he : P.underlying e = some (.int k)) (hs : sizeB P e 1 = true) (hsc : scalarB P e = true) (ha : xs1.length = m) (hb : xs2.length = m) : (execOp (ev ρ) ⟨dd, .binOp .neq t x y u, ty, pos, af, gg⟩).run P w = .ok (.value (.bool (decide (xs1 ≠ xs2)))) w := by
  have h := run_eqGuard_agg (P := P) w .neq t x y (xs1.map (Value.int k)).toArray (xs2.map (Value.int k)).toArray hg
  have h2 := run_eq_ints (w := w) hu he hs hsc ha hb
  have e2 : (binOp .neq t (.agg (xs1.map (Value.int k)).toArray) (.agg (xs2.map (Value.int k)).toArray)).run P w = .ok (.bool (decide (xs1 ≠ xs2))) w := by
    simp only [binOp]
    simp [h2]
  simp only [execOp, hx, hy, Sem.run_bind, h, Result.andThen_ok, e2, Sem.run_pure, Sem.run_map]
theorem neqAr {t u e : TypeId} {x y : Operand} {k : IntKind} {m : Nat} {xs1 xs2 : List Int} (hx : ev ρ x = .agg (xs1.map (Value.int k)).toArray) (hy : ev ρ y = .agg (xs2.map (Value.int k)).toArray) (hg : P.eqGuardType P.depth t = false) (hu : P.underlying t = some (.array m e)) (he : P.underlying e = some (.int k)) (hs : sizeB P e 1 = true) (hsc : scalarB P e = true) (ha : xs1.length = m) (hb : xs2.length = m) (hn : Nat.blt d n = true) (kk : wl P n ops Q rest (upd ρ d (.bool (decide (xs1 ≠ xs2)))) w) : wl P n ops Q (⟨some d, .binOp .neq t x y u, ty, pos, af, none⟩ :: rest) ρ w :=
  val rfl rfl hn (r_neqAr hx hy hg hu he hs hsc ha hb) kk
theorem r_eqlAr {t u e : TypeId} {x y : Operand} {k : IntKind} {m : Nat} {xs1 xs2 : List Int} {dd : Option Nat} {gg : Option (Nat × Bool)} (hx : ev ρ x = .agg (xs1.map (Value.int k)).toArray) (hy : ev ρ y = .agg (xs2.map (Value.int k)).toArray) (hg : P.eqGuardType P.depth t = false) (hu : P.underlying t = some (.array m e)) (he : P.underlying e = some (.int k)) (hs : sizeB P e 1 = true) (hsc : scalarB P e = true) (ha : xs1.length = m) (hb : xs2.length = m) : (execOp (ev ρ) ⟨dd, .binOp .eql t x y u, ty, pos, af, gg⟩).run P w = .ok (.value (.bool (decide (xs1 = xs2)))) w := by
  have h := run_eqGuard_agg (P := P) w .eql t x y (xs1.map (Value.int k)).toArray (xs2.map (Value.int k)).toArray hg
  have h2 := run_eq_ints (w := w) hu he hs hsc ha hb
  have e2 : (binOp .eql t (.agg (xs1.map (Value.int k)).toArray) (.agg (xs2.map (Value.int k)).toArray)).run P w = .ok (.bool (decide (xs1 = xs2))) w := by
    simp only [binOp]
    simp [h2]
  simp only [execOp, hx, hy, Sem.run_bind, h, Result.andThen_ok, e2, Sem.run_pure, Sem.run_map]
theorem eqlAr {t u e : TypeId} {x y : Operand} {k : IntKind} {m : Nat} {xs1 xs2 : List Int} (hx : ev ρ x = .agg (xs1.map (Value.int k)).toArray) (hy : ev ρ y = .agg (xs2.map (Value.int k)).toArray) (hg : P.eqGuardType P.depth t = false) (hu : P.underlying t = some (.array m e)) (he : P.underlying e = some (.int k)) (hs : sizeB P e 1 = true) (hsc : scalarB P e = true) (ha : xs1.length = m) (hb : xs2.length = m) (hn : Nat.blt d n = true) (kk : wl P n ops Q rest (upd ρ d (.bool (decide (xs1 = xs2)))) w) : wl P n ops Q (⟨some d, .binOp .eql t x y u, ty, pos, af, none⟩ :: rest) ρ w :=
  val rfl rfl hn (r_eqlAr hx hy hg hu he hs hsc ha hb) kk
/-- Rows of bytes. -/
theorem Bs_ints (xs : List UInt8) : Bs xs = (xs.map fun b => (b.toNat : Int)).map (Value.int .u8) := by simp [Bs, u8v, Function.comp_def]
theorem ints_inj {xs ys : List UInt8} : (xs.map fun b => (b.toNat : Int)) = (ys.map fun b => (b.toNat : Int)) ↔ xs = ys := by
  constructor
  · intro h
    refine List.map_inj_right (f := fun b : UInt8 => (b.toNat : Int)) (fun a b e => ?_) |>.1 h
    exact UInt8.toNat.inj (by omega)
  · rintro rfl; rfl
theorem r_eqlBs {t u e : TypeId} {x y : Operand} {m : Nat} {xs ys : List UInt8} {dd : Option Nat} {gg : Option (Nat × Bool)} (hx : ev ρ x = .agg (Bs xs).toArray) (hy : ev ρ y = .agg (Bs ys).toArray) (hg : P.eqGuardType P.depth t = false) (hu : P.underlying t = some (.array m e)) (he : P.underlying e = some (.int .u8)) (hs : sizeB P e 1 = true) (hsc : scalarB P e = true) (ha : xs.length = m) (hb : ys.length = m) : (execOp (ev ρ) ⟨dd, .binOp .eql t x y u, ty, pos, af, gg⟩).run P w = .ok (.value (.bool (decide (xs = ys)))) w := by
  rw [Bs_ints] at hx hy
  rw [r_eqlAr hx hy hg hu he hs hsc (by simpa using ha) (by simpa using hb)]
  congr 3
  exact decide_eq_decide.2 ints_inj
theorem eqlBs {t u e : TypeId} {x y : Operand} {m : Nat} {xs ys : List UInt8} (hx : ev ρ x = .agg (Bs xs).toArray) (hy : ev ρ y = .agg (Bs ys).toArray) (hg : P.eqGuardType P.depth t = false) (hu : P.underlying t = some (.array m e)) (he : P.underlying e = some (.int .u8)) (hs : sizeB P e 1 = true) (hsc : scalarB P e = true) (ha : xs.length = m) (hb : ys.length = m) (hn : Nat.blt d n = true) (kk : wl P n ops Q rest (upd ρ d (.bool (decide (xs = ys)))) w) : wl P n ops Q (⟨some d, .binOp .eql t x y u, ty, pos, af, none⟩ :: rest) ρ w :=
  val rfl rfl hn (r_eqlBs hx hy hg hu he hs hsc ha hb) kk
end steps
end Go.Proofs.Ythcaejaaalkglaa.X
/- The laws of single operations: a number as a string of one rune, below 128. -/
namespace Go.Proofs.Ythcaejaaalkglaa.X
set_option linter.unusedVariables false
open Go Go.RowKit
theorem utf8_ascii : ∀ a : Fin 128, Utf8.encode (a.val : Int) = str [UInt8.ofNat a.val] := by decide +kernel
section steps
variable {P : Program} {n : Nat} {ops : Array Oper} {Q : Post} {rest : List Oper} {ρ : Env} {w : World} {ty : TypeId} {pos : String} {af : Array Edge} {d : Nat}
theorem cvIS {s t : TypeId} {x : Operand} {k : IntKind} {a : Int} (hx : ev ρ x = .int k a) (hs : (P.underlying s).isSome = true) (ht : P.underlying t = some .string) (ha : 0 ≤ a ∧ a < 128) (hn : Nat.blt d n = true) (kk : wl P n ops Q rest (upd ρ d (.string (str [b8 a]))) w) : wl P n ops Q (⟨some d, .convert s t x, ty, pos, af, none⟩ :: rest) ρ w :=
  val rfl rfl hn (by
    obtain ⟨j, rfl⟩ := Int.eq_ofNat_of_zero_le ha.1
    have hj : j < 128 := by omega
    have h := utf8_ascii ⟨j, hj⟩
    have e : str [b8 (j : Int)] = Utf8.encode (j : Int) := by rw [h]; simp [b8]
    rw [e]
    simp [execOp, hx, run_convert_int_string w s t k (j : Int) hs ht]) kk
end steps
theorem runes_ints (s : ByteArray) : ∀ (bound i : Nat) (acc : Array Value) (rs : List Int), acc.toList = rs.map (Value.int .i32) → ∃ rs' : List Int, (Conv.runesFrom s bound i acc).toList = rs'.map (Value.int .i32) ∧ rs'.length ≤ rs.length + bound
  | 0, _, acc, rs, h => ⟨rs, by simpa [Conv.runesFrom] using h, by omega⟩
  | bound + 1, i, acc, rs, h => by
    unfold Conv.runesFrom
    split
    · obtain ⟨rs', h1, h2⟩ := runes_ints s bound (i + (Utf8.decode s i).2) (acc.push (.int .i32 (Int.ofNat (Utf8.decode s i).1))) (rs ++ [Int.ofNat (Utf8.decode s i).1]) (by simp [h])
      refine ⟨rs', h1, ?_⟩
      simp at h2; omega
    · exact ⟨rs, h, by omega⟩
/-- A string's runes. -/
noncomputable def rOf (bs : List UInt8) : List Int := Classical.choose (runes_ints (str bs) (str bs).size 0 #[] [] rfl)
theorem rOf_spec (bs : List UInt8) : (Conv.runesFrom (str bs) (str bs).size 0 #[]).toList = (rOf bs).map (Value.int .i32) ∧ (rOf bs).length ≤ ([] : List Int).length + (str bs).size := Classical.choose_spec (runes_ints (str bs) (str bs).size 0 #[] [] rfl)
theorem rOf_le (bs : List UInt8) : (rOf bs).length ≤ bs.length := by
  have := (rOf_spec bs).2
  rw [size_str] at this
  simpa using this
section steps
variable {P : Program} {n : Nat} {ops : Array Oper} {Q : Post} {rest : List Oper} {ρ : Env} {w : World} {ty : TypeId} {pos : String} {af : Array Edge} {d : Nat}
theorem cvSR {w0 : World} {S : List Nat} {L : List Ent} {s t e : TypeId} {x : Operand} {bs : List UInt8} (H : SH w0 S w L) (hx : ev ρ x = .string (str bs)) (hs : P.underlying s = some .string) (ht : P.underlying t = some (.slice e)) (he : P.underlying e = some (.int .i32)) (hl : bs.length ≤ 70368744177664) (hn : Nat.blt d n = true)
    (kk : ∀ b c w', w.heap.size ≤ b → (rOf bs).length ≤ c → SH w0 S w' (⟨b, .cells ((rOf bs ++ List.replicate (c - (rOf bs).length) 0).map (Value.int .i32)).toArray e (0, 0), true⟩ :: L) → Fr [] w w' → wl P n ops Q rest (upd ρ d (.slice (some ⟨b, 0, none⟩) (rOf bs).length c)) w') : wl P n ops Q (⟨some d, .convert s t x, ty, pos, af, none⟩ :: rest) ρ w := by
  obtain ⟨h1, h2⟩ := rOf_spec bs
  generalize hrs : rOf bs = rs at h1 h2 kk
  have hsz : (Conv.runesFrom (str bs) (str bs).size 0 #[]).size = rs.length := by rw [← Array.length_toList, h1]; simp
  rw [size_str] at h2
  have hr := run_runes_of_string (P := P) w s t e (str bs) hs ht he (by rw [hsz]; simp at h2; omega)
  rw [hsz] at hr
  have hge := grownCap_ge w rs.length 0 e
  have e1 : Conv.runesFrom (str bs) (str bs).size 0 #[] ++ Array.replicate (grownCap w rs.length 0 e - rs.length) (.int .i32 0) = ((rs ++ List.replicate (grownCap w rs.length 0 e - rs.length) 0).map (Value.int .i32)).toArray := by
    apply Array.ext'
    rw [Array.toList_append, h1]
    simp
  rw [e1] at hr
  refine val rfl rfl hn (by simp [execOp, hx, hr]) (kk w.heap.size _ _ (Nat.le_refl _) hge (H.new ((Fr.drew [] w).trans (Fr.alloc w.drew _)) (Nat.le_refl _) (heap_alloc_new w.drew _)) ((Fr.drew [] w).trans (Fr.alloc w.drew _)))
/-- Runes as a string. -/
def rBytes (ns : List Int) (l : Nat) : List UInt8 := (runesBytes (ns.take l)).data.toList
theorem rBytes_le (ns : List Int) (l : Nat) : (rBytes ns l).length ≤ 4 * l := by
  unfold rBytes
  rw [Array.length_toList]
  have h : (runesBytes (ns.take l)).size ≤ ByteArray.empty.size + 4 * (ns.take l).length := foldl_size_le (ns.take l) ByteArray.empty
  have e0 : ByteArray.empty.size = 0 := rfl
  rw [e0, List.length_take] at h
  have : (runesBytes (ns.take l)).data.size = (runesBytes (ns.take l)).size := rfl
  omega
theorem r_catT {t u : TypeId} {x y : Operand} {a b : List UInt8} {dd : Option Nat} {gg : Option (Nat × Bool)} (hx : ev ρ x = .string (str a)) (hy : ev ρ y = .string (str b)) (hl : a.length + b.length ≤ 9223372036854775807) : (execOp (ev ρ) ⟨dd, .binOp .add t x y u, ty, pos, af, gg⟩).run P w = .ok (.value (.string (str (a ++ b)))) w := by
  have h := run_string_add_sum (P := P) (w := w) (str a) (str b) (by simpa using hl)
  have e : str a ++ str b = str (a ++ b) := ByteArray.mk_append_mk a b
  rw [e] at h
  simp [execOp, hx, hy, eqGuard_at_string, binOp_string_add, h]
theorem r_cvRS {w0 : World} {S : List Nat} {L : List Ent} {s t e T : TypeId} {x : Operand} {b l c : Nat} {fr : Nat × Nat} {ns : List Int} {dd : Option Nat} {gg : Option (Nat × Bool)} (H : SH w0 S w L) (hx : ev ρ x = .slice (some ⟨b, 0, none⟩) l c) [Look L b (.cells (ns.map (Value.int .i32)).toArray T fr)] (hs : P.underlying s = some (.slice e)) (he : P.underlying e = some (.int .i32)) (ht : P.underlying t = some .string) (hl : l ≤ ns.length) :
    (execOp (ev ρ) ⟨dd, .convert s t x, ty, pos, af, gg⟩).run P w = .ok (.value (.string (str (rBytes ns l)))) w := by
  have hL := H.look (b := b) (o := .cells (ns.map (Value.int .i32)).toArray T fr)
  have hload : (loadCells ⟨b, 0, none⟩ l).run P w = .ok ((ns.take l).map (Value.int .i32)).toArray w := by
    have := run_loadCells_list (P := P) w ⟨b, 0, none⟩ ((ns.take l).map (Value.int .i32)) (fun j v hj => by
      rw [Addr.add_lit, cell_at hL]
      rw [List.getElem?_map, List.getElem?_take] at hj
      split at hj
      · simpa using hj
      · simp at hj)
    rw [List.length_map, List.length_take, Nat.min_eq_left hl] at this
    exact this
  have hr := run_runesToString (P := P) w ⟨b, 0, none⟩ l c (ns.take l) hload
  have hc := run_convert_runes_string (P := P) w s t e (some ⟨b, 0, none⟩) l c hs he ht
  unfold rBytes
  rw [str_data]
  simp [execOp, hx, hc, hr]
theorem cvRS {w0 : World} {S : List Nat} {L : List Ent} {s t e T : TypeId} {x : Operand} {b l c : Nat} {fr : Nat × Nat} {ns : List Int} (H : SH w0 S w L) (hx : ev ρ x = .slice (some ⟨b, 0, none⟩) l c) [Look L b (.cells (ns.map (Value.int .i32)).toArray T fr)] (hs : P.underlying s = some (.slice e)) (he : P.underlying e = some (.int .i32)) (ht : P.underlying t = some .string) (hl : l ≤ ns.length) (hn : Nat.blt d n = true)
    (kk : wl P n ops Q rest (upd ρ d (.string (str (rBytes ns l)))) w) : wl P n ops Q (⟨some d, .convert s t x, ty, pos, af, none⟩ :: rest) ρ w :=
  val rfl rfl hn (r_cvRS H hx hs he ht hl) kk
end steps
end Go.Proofs.Ythcaejaaalkglaa.X
/- Bytes put into a row, numbers as bytes. -/
namespace Go.Proofs.Ythcaejaaalkglaa.X
open Go
set_option linter.unusedVariables false
/-- The row with some bytes put at o. -/
def pAt (cur : List UInt8) (o : Nat) (es : List UInt8) : List UInt8 := cur.take o ++ es ++ cur.drop (o + es.length)
theorem pAt_len {cur es : List UInt8} {o : Nat} (h : o + es.length ≤ cur.length) : (pAt cur o es).length = cur.length := by
  unfold pAt; simp; omega
theorem pAt_nil (cur : List UInt8) (o : Nat) : pAt cur o [] = cur := by simp [pAt]
theorem pAt_set {cur es : List UInt8} {o : Nat} {x : UInt8} (h : o + es.length < cur.length) : (pAt cur o es).set (o + es.length) x = pAt cur o (es ++ [x]) := by
  unfold pAt
  have h1 : (cur.take o ++ es).length = o + es.length := by simp; omega
  rw [List.set_append_right _ _ (by rw [h1]; exact Nat.le_refl _), h1, Nat.sub_self, List.drop_eq_getElem_cons h, List.set_cons_zero, List.length_append]
  simp [Nat.add_assoc]
theorem pAt_pAt {cur es fs : List UInt8} {o p : Nat} (hp : p = o + es.length) (h : p + fs.length ≤ cur.length) : pAt (pAt cur o es) p fs = pAt cur o (es ++ fs) := by
  subst hp
  unfold pAt
  have h1 : (cur.take o ++ es).length = o + es.length := by simp; omega
  rw [List.take_append_of_le_length (by omega), List.take_of_length_le (by omega), List.drop_append, h1]
  rw [List.drop_of_length_le (l := cur.take o ++ es) (by omega)]
  simp only [List.nil_append, List.drop_drop, List.append_assoc, List.length_append]
  congr 4
  omega
theorem pAt_get {cur es : List UInt8} {o : Nat} (h : o + es.length ≤ cur.length) : ((pAt cur o es).drop o).take es.length = es := by
  unfold pAt
  have h1 : (cur.take o).length = o := by simp; omega
  rw [List.append_assoc, List.drop_append, h1, List.drop_of_length_le (by omega), Nat.sub_self]
  simp
theorem set_first {cur : List UInt8} {o : Nat} {x : UInt8} (h : o < cur.length) : cur.set o x = pAt cur o [x] := by
  have := pAt_set (cur := cur) (es := []) (o := o) (x := x) (by simpa using h)
  rw [pAt_nil] at this
  simpa using this
theorem set_again {cur : List UInt8} {o : Nat} {x y : UInt8} (h : o < cur.length) : (pAt cur o [x]).set o y = pAt cur o [y] := by
  rw [← set_first h, List.set_set, set_first h]
theorem set_eq {X : List UInt8} {a o : Nat} {x y : UInt8} (h : a = o) (hx : x = y) : X.set a x = X.set o y := by subst h hx; rfl
theorem set_set_eq {X : List UInt8} {a a' o : Nat} {x y z : UInt8} (h : a = o) (h' : a' = o) (hx : y = z) : (X.set a x).set a' y = X.set o z := by subst h h' hx; rw [List.set_set]
theorem sh_bytes {w0 w : World} {S : List Nat} {b : Nat} {T : TypeId} {L : List Ent} {cur cur' : List UInt8} {m : Bool} {fr : Nat × Nat} (H : SH w0 S w (⟨b, .cells (Bs cur).toArray T fr, m⟩ :: L)) (e : cur = cur') : SH w0 S w (⟨b, .cells (Bs cur').toArray T fr, m⟩ :: L) := e ▸ H
/-- A number's bytes, the lowest one first. -/
def leB : Nat → Int → List UInt8
  | 0, _ => []
  | n + 1, v => b8 (v % 256) :: leB n (v / 256)
theorem leB_len : ∀ (n : Nat) (v : Int), (leB n v).length = n
  | 0, _ => rfl
  | n + 1, v => by simp [leB, leB_len n]
theorem ediv_pow (v : Int) (n : Nat) : v / 256 ^ (n + 1) = v / 256 / 256 ^ n := by
  rw [Int.pow_succ, Int.mul_comm, Int.ediv_ediv, if_neg (by omega), Int.sub_zero]
theorem leB_snoc : ∀ (n : Nat) (v : Int), leB (n + 1) v = leB n v ++ [b8 (v / 256 ^ n % 256)]
  | 0, v => by simp [leB]
  | n + 1, v => by
    rw [leB, leB_snoc n (v / 256)]
    rw [show v / 256 ^ (n + 1) = v / 256 / 256 ^ n from ediv_pow v n]
    rfl
theorem b8_inj {x y : Int} (hx : 0 ≤ x ∧ x ≤ 255) (hy : 0 ≤ y ∧ y ≤ 255) (h : b8 x = b8 y) : x = y := by
  have h1 := u8v_b8 hx; have h2 := u8v_b8 hy
  unfold u8v at h1 h2
  rw [h] at h1
  have := h1.symm.trans h2
  simpa using this
theorem leB_inj : ∀ (n : Nat) {x y : Int}, 0 ≤ x → x < 256 ^ n → 0 ≤ y → y < 256 ^ n → leB n x = leB n y → x = y
  | 0, x, y, hx, hx', hy, hy', h => by simp at hx' hy'; omega
  | n + 1, x, y, hx, hx', hy, hy', h => by
    simp only [leB, List.cons.injEq] at h
    have h1 := b8_inj (x := x % 256) (y := y % 256) (by omega) (by omega) h.1
    have e : ∀ z : Int, 0 ≤ z → z < 256 ^ (n + 1) → z / 256 < 256 ^ n := fun z h0 h => by
      rw [Int.pow_succ] at h
      exact Int.ediv_lt_of_lt_mul (by decide) h
    have h2 := leB_inj n (by omega) (e x hx hx') (by omega) (e y hy hy') h.2
    omega
/-- Bytes set one behind the other. -/
def setsL : List UInt8 → Nat → List UInt8 → List UInt8
  | X, _, [] => X
  | X, o, x :: r => setsL (X.set o x) (o + 1) r
theorem setsL_pAt : ∀ (es : List UInt8) (cur fs : List UInt8) (o : Nat), o + fs.length + es.length ≤ cur.length → setsL (pAt cur o fs) (o + fs.length) es = pAt cur o (fs ++ es)
  | [], cur, fs, o, h => by simp [setsL]
  | x :: r, cur, fs, o, h => by
    simp only [List.length_cons] at h
    rw [setsL, pAt_set (by omega)]
    have := setsL_pAt r cur (fs ++ [x]) o (by simp; omega)
    rw [List.length_append, List.length_singleton, ← Nat.add_assoc] at this
    rw [this]; simp
theorem setsL_eq {cur es : List UInt8} {o : Nat} (h : o + es.length ≤ cur.length) : setsL cur o es = pAt cur o es := by
  have := setsL_pAt es cur [] o (by simpa using h)
  simpa [pAt_nil] using this
theorem pAt_all {cur es : List UInt8} (h : es.length = cur.length) : pAt cur 0 es = es := by
  unfold pAt
  rw [h]; simp
theorem pAt_length (cur : List UInt8) (o : Nat) (es : List UInt8) : (pAt cur o es).length = max cur.length (min o cur.length + es.length) := by
  unfold pAt
  simp only [List.length_append, List.length_take, List.length_drop]
  omega
end Go.Proofs.Ythcaejaaalkglaa.X
/- Numbers of four and eight bytes, the lowest first. -/
namespace Go.Proofs.Ythcaejaaalkglaa.X
open Go
set_option linter.unusedVariables false
/-- The number that some bytes say. -/
def leV : List UInt8 → Int
  | [] => 0
  | b :: r => (b.toNat : Int) + 256 * leV r
theorem leV_leB : ∀ (n : Nat) {v : Int}, 0 ≤ v → v < 256 ^ n → leV (leB n v) = v
  | 0, v, h, h2 => by simp at h2; simp [leB, leV]; omega
  | n + 1, v, h, h2 => by
    have h3 : v / 256 < 256 ^ n := by rw [Int.pow_succ] at h2; exact Int.ediv_lt_of_lt_mul (by decide) h2
    have ih := leV_leB n (v := v / 256) (by omega) h3
    have e : ((b8 (v % 256)).toNat : Int) = v % 256 := by
      have := u8v_b8 (a := v % 256) (by omega)
      unfold u8v at this
      simpa using this
    rw [leB, leV, ih, e]; omega
theorem leV_rng : ∀ (bs : List UInt8), 0 ≤ leV bs ∧ leV bs < 256 ^ bs.length
  | [] => by simp [leV]
  | b :: r => by
    have ih := leV_rng r
    have := b.toNat_lt
    rw [leV, List.length_cons, Int.pow_succ]; omega
theorem bor_u32 {x y : Nat} (hx : x < 4294967296) (hy : y < 4294967296) : bits .or .u32 (x : Int) (y : Int) = ((x ||| y : Nat) : Int) := by
  have e : bits .or .u32 (x : Int) (y : Int) = IntKind.u32.wrap ((BitVec.ofInt 32 (x : Int) ||| BitVec.ofInt 32 (y : Int)).toNat : Int) := rfl
  have hx' : (BitVec.ofInt 32 (x : Int)).toNat = x := by rw [BitVec.toNat_ofInt]; omega
  have hy' : (BitVec.ofInt 32 (y : Int)).toNat = y := by rw [BitVec.toNat_ofInt]; omega
  have hlt : x ||| y < 4294967296 := Nat.or_lt_two_pow (n := 32) hx hy
  rw [e, BitVec.toNat_or, hx', hy', w_u32 (by omega)]
theorem mask_rng32 (y : Int) (k : Nat) (m : Int) (hm : (BitVec.ofInt 32 m).toNat = 2 ^ k - 1 ∧ 2 ^ k - 1 ≤ 4294967295 ∧ m = ((2 ^ k - 1 : Nat) : Int)) : 0 ≤ bits .and .u32 y m ∧ bits .and .u32 y m ≤ m := by
  have e : bits .and .u32 y m = IntKind.u32.wrap ((BitVec.ofInt 32 y &&& BitVec.ofInt 32 m).toNat : Int) := rfl
  have h : (BitVec.ofInt 32 y &&& BitVec.ofInt 32 m).toNat ≤ 2 ^ k - 1 := by
    rw [BitVec.toNat_and, hm.1]; exact Nat.and_le_right
  rw [e, w_u32 (by omega)]
  omega
def hexL : List UInt8 := [48, 49, 50, 51, 52, 53, 54, 55, 56, 57, 97, 98, 99, 100, 101, 102]
theorem hex_lt : ∀ i : Fin 16, ((hexL.getD i.val 0).toNat : Int) < 128 := by decide +kernel
theorem hex_lt' {z : Int} (h : 0 ≤ z ∧ z ≤ 15) : 0 ≤ ((hexL.getD z.toNat 0).toNat : Int) ∧ ((hexL.getD z.toNat 0).toNat : Int) < 128 := ⟨by omega, hex_lt ⟨z.toNat, by omega⟩⟩
theorem four_at {cur : List UInt8} {o : Nat} (h : o + 4 ≤ cur.length) : (cur.drop o).take 4 = [cur.getD o 0, cur.getD (o + 1) 0, cur.getD (o + 2) 0, cur.getD (o + 3) 0] := by
  apply List.ext_getElem?
  intro i
  rw [List.getElem?_take]
  match i with
  | 0 => simp [List.getD_eq_getElem?_getD, show o < cur.length by omega]
  | 1 => simp [List.getD_eq_getElem?_getD, show o + 1 < cur.length by omega]
  | 2 => simp [List.getD_eq_getElem?_getD, show o + 2 < cur.length by omega]
  | 3 => simp [List.getD_eq_getElem?_getD, show o + 3 < cur.length by omega]
  | i + 4 => simp; omega
theorem hex_rng {z : Int} {k : Nat} (hz : 0 ≤ z ∧ z < 16 ^ (8 - k)) (hk : k ≤ 8) : 0 ≤ z ∧ z ≤ 4294967295 := by
  have h : (16 : Int) ^ (8 - k) ≤ 16 ^ 8 := by
    have : (16 : Nat) ^ (8 - k) ≤ 16 ^ 8 := Nat.pow_le_pow_right (by decide) (by omega)
    exact_mod_cast this
  have h8 : (16 : Int) ^ 8 = 4294967296 := by decide
  omega
theorem hex_step {z : Int} {s : List UInt8} {c : UInt8} (hz : 0 ≤ z ∧ z < 16 ^ (8 - s.length)) (h : s.length < 8) : 0 ≤ z / 16 ∧ z / 16 < 16 ^ (8 - ([c] ++ s).length) := by
  have e : 8 - s.length = (8 - ([c] ++ s).length) + 1 := by simp; omega
  rw [e, Int.pow_succ] at hz
  exact ⟨by omega, Int.ediv_lt_of_lt_mul (by decide) hz.2⟩
theorem hex_pos {z : Int} {k : Nat} (hz : 0 ≤ z ∧ z < 16 ^ (8 - k)) (hk : k ≤ 8) (h : 0 < z) : k < 8 := by
  rcases Nat.lt_or_ge k 8 with h8 | h8
  · exact h8
  · have : k = 8 := by omega
    subst this
    simp at hz
    omega
theorem or_shift {x y k : Nat} (h : x < 2 ^ k) : x ||| y * 2 ^ k = x + y * 2 ^ k := by
  have := Nat.shiftLeft_add_eq_or_of_lt h y
  rw [Nat.shiftLeft_eq] at this
  rw [Nat.or_comm, ← this, Nat.add_comm]
theorem le32_eq (b0 b1 b2 b3 : UInt8) : bits .or .u32 (bits .or .u32 (bits .or .u32 (b0.toNat : Int) ((b1.toNat : Int) * 256)) ((b2.toNat : Int) * 65536)) ((b3.toNat : Int) * 16777216) = leV [b0, b1, b2, b3] := by
  have h0 := b0.toNat_lt; have h1 := b1.toNat_lt; have h2 := b2.toNat_lt; have h3 := b3.toNat_lt
  have e1 : ((b1.toNat : Int) * 256) = ((b1.toNat * 2 ^ 8 : Nat) : Int) := by omega
  have e2 : ((b2.toNat : Int) * 65536) = ((b2.toNat * 2 ^ 16 : Nat) : Int) := by omega
  have e3 : ((b3.toNat : Int) * 16777216) = ((b3.toNat * 2 ^ 24 : Nat) : Int) := by omega
  rw [e1, e2, e3, bor_u32 (by omega) (by omega), or_shift (by omega), bor_u32 (by omega) (by omega), or_shift (by omega), bor_u32 (by omega) (by omega), or_shift (by omega)]
  simp only [leV]; omega
theorem put4 (cur : List UInt8) (o : Nat) (x : Int) (h : 0 ≤ x ∧ x ≤ 4294967295) : setsL cur o (leB 4 x) = (((cur.set (o + (0 : Int).toNat * 1) (b8 (x % 256))).set (o + (1 : Int).toNat * 1) (b8 (x / 256 % 256))).set (o + (2 : Int).toNat * 1) (b8 (x / 65536 % 256))).set (o + (3 : Int).toNat * 1) (b8 (x / 16777216)) := by
  rw [show x / 65536 = x / 256 / 256 by omega, show x / 16777216 = x / 256 / 256 / 256 % 256 by omega]
  rfl
theorem bor_u64 {x y : Nat} (hx : x < 18446744073709551616) (hy : y < 18446744073709551616) : bits .or .u64 (x : Int) (y : Int) = ((x ||| y : Nat) : Int) := by
  have e : bits .or .u64 (x : Int) (y : Int) = IntKind.u64.wrap ((BitVec.ofInt 64 (x : Int) ||| BitVec.ofInt 64 (y : Int)).toNat : Int) := rfl
  have hx' : (BitVec.ofInt 64 (x : Int)).toNat = x := by rw [BitVec.toNat_ofInt]; omega
  have hy' : (BitVec.ofInt 64 (y : Int)).toNat = y := by rw [BitVec.toNat_ofInt]; omega
  have hlt : x ||| y < 18446744073709551616 := Nat.or_lt_two_pow (n := 64) hx hy
  rw [e, BitVec.toNat_or, hx', hy', w_u64 (by omega)]
theorem or64 {y : Int} {b : Nat} (hy : 0 ≤ y ∧ y ≤ 72057594037927935) (hb : b < 256) : bits .or .u64 (y * 256) (b : Int) = b + 256 * y := by
  obtain ⟨k, rfl⟩ := Int.eq_ofNat_of_zero_le hy.1
  have e : (k : Int) * 256 = ((k * 2 ^ 8 : Nat) : Int) := by omega
  rw [e, bor_u64 (by omega) (by omega), Nat.or_comm, or_shift (by omega)]
  omega
theorem leV_at {l : List UInt8} {i : Nat} (h : i < l.length) : leV (l.drop i) = ((l.getD i 0).toNat : Int) + 256 * leV (l.drop (i + 1)) := by
  rw [List.drop_eq_getElem_cons h, leV]
  simp [List.getD_eq_getElem?_getD, h]
theorem leV_le7 {l : List UInt8} (h : l.length ≤ 7) : 0 ≤ leV l ∧ leV l ≤ 72057594037927935 := by
  have := leV_rng l
  have h2 : ((256 ^ l.length : Nat) : Int) ≤ ((256 ^ 7 : Nat) : Int) := Int.ofNat_le.2 (Nat.pow_le_pow_right (by decide) h)
  rw [Int.natCast_pow, Int.natCast_pow] at h2
  rw [show ((256 : Nat) : Int) = 256 from rfl] at h2
  have h3 : (256 : Int) ^ 7 = 72057594037927936 := by decide
  omega
theorem or64s {x : Int} {b : UInt8} (k : Nat) {K : Int} (hK : K = ((2 ^ k : Nat) : Int)) (hk : k ≤ 56) (hx : 0 ≤ x ∧ x < K) : bits .or .u64 x ((b.toNat : Int) * K) = x + (b.toNat : Int) * K := by
  subst hK
  obtain ⟨y, rfl⟩ := Int.eq_ofNat_of_zero_le hx.1
  have hb := b.toNat_lt
  have h1 : (2 : Nat) ^ k ≤ 2 ^ 56 := Nat.pow_le_pow_right (by decide) hk
  have h2 : y < 2 ^ k := by have := hx.2; exact_mod_cast this
  have h3 : b.toNat * 2 ^ k ≤ 255 * 2 ^ 56 := Nat.mul_le_mul (by omega) h1
  have e : ((b.toNat : Int) * ((2 ^ k : Nat) : Int)) = ((b.toNat * 2 ^ k : Nat) : Int) := by rw [Int.natCast_mul]
  rw [e, bor_u64 (by omega) (by omega), or_shift h2, Int.natCast_add]
theorem le64_eq (b0 b1 b2 b3 b4 b5 b6 b7 : UInt8) : bits .or .u64 (bits .or .u64 (bits .or .u64 (bits .or .u64 (bits .or .u64 (bits .or .u64 (bits .or .u64 (b0.toNat : Int) ((b1.toNat : Int) * 256)) ((b2.toNat : Int) * 65536)) ((b3.toNat : Int) * 16777216)) ((b4.toNat : Int) * 4294967296)) ((b5.toNat : Int) * 1099511627776)) ((b6.toNat : Int) * 281474976710656)) ((b7.toNat : Int) * 72057594037927936) = leV [b0, b1, b2, b3, b4, b5, b6, b7] := by
  have h0 := b0.toNat_lt; have h1 := b1.toNat_lt; have h2 := b2.toNat_lt; have h3 := b3.toNat_lt; have h4 := b4.toNat_lt; have h5 := b5.toNat_lt; have h6 := b6.toNat_lt; have h7 := b7.toNat_lt
  rw [or64s (K := 256) 8 (by decide) (by decide) (by omega), or64s (K := 65536) 16 (by decide) (by decide) (by omega), or64s (K := 16777216) 24 (by decide) (by decide) (by omega), or64s (K := 4294967296) 32 (by decide) (by decide) (by omega), or64s (K := 1099511627776) 40 (by decide) (by decide) (by omega), or64s (K := 281474976710656) 48 (by decide) (by decide) (by omega), or64s (K := 72057594037927936) 56 (by decide) (by decide) (by omega)]
  simp only [leV]; omega
theorem bor_u16 {x y : Nat} (hx : x < 65536) (hy : y < 65536) : bits .or .u16 (x : Int) (y : Int) = ((x ||| y : Nat) : Int) := by
  have e : bits .or .u16 (x : Int) (y : Int) = IntKind.u16.wrap ((BitVec.ofInt 16 (x : Int) ||| BitVec.ofInt 16 (y : Int)).toNat : Int) := rfl
  have hx' : (BitVec.ofInt 16 (x : Int)).toNat = x := by rw [BitVec.toNat_ofInt]; omega
  have hy' : (BitVec.ofInt 16 (y : Int)).toNat = y := by rw [BitVec.toNat_ofInt]; omega
  have hlt : x ||| y < 65536 := Nat.or_lt_two_pow (n := 16) hx hy
  rw [e, BitVec.toNat_or, hx', hy', w_u16 (by omega)]
theorem le16_eq (b0 b1 : UInt8) : bits .or .u16 (b0.toNat : Int) ((b1.toNat : Int) * 256) = leV [b0, b1] := by
  have h0 := b0.toNat_lt; have h1 := b1.toNat_lt
  have e1 : ((b1.toNat : Int) * 256) = ((b1.toNat * 2 ^ 8 : Nat) : Int) := by omega
  rw [e1, bor_u16 (by omega) (by omega), or_shift (by omega)]
  simp only [leV]; omega
theorem two_at {cur : List UInt8} {o : Nat} (h : o + 2 ≤ cur.length) : (cur.drop o).take 2 = [cur.getD o 0, cur.getD (o + 1) 0] := by
  refine List.ext_getElem? fun i => ?_
  match i with
  | 0 => simp [List.getD_eq_getElem?_getD, show o < cur.length by omega]
  | 1 => simp [List.getD_eq_getElem?_getD, show o + 1 < cur.length by omega]
  | i + 2 => simp; omega
theorem eight_at {cur : List UInt8} {o : Nat} (h : o + 8 ≤ cur.length) : (cur.drop o).take 8 = [cur.getD o 0, cur.getD (o + 1) 0, cur.getD (o + 2) 0, cur.getD (o + 3) 0, cur.getD (o + 4) 0, cur.getD (o + 5) 0, cur.getD (o + 6) 0, cur.getD (o + 7) 0] := by
  have := four_at (cur := cur) (o := o) (by omega)
  have h2 := four_at (cur := cur) (o := o + 4) (by omega)
  rw [show 8 = 4 + 4 from rfl, List.take_add, this, List.drop_drop, h2]
  rfl
/-- The value of the bytes from the last down. -/
theorem leV_down {ds : List UInt8} {p n m : Nat} (h : p + n ≤ ds.length) (hm : m < n) : leV ((ds.drop (p + (n - (m + 1)))).take (m + 1)) = ((ds.getD (p + (n - (m + 1))) 0).toNat : Int) + 256 * leV ((ds.drop (p + (n - m))).take m) := by
  rw [List.drop_eq_getElem_cons (by omega), List.take_succ_cons, leV, show p + (n - (m + 1)) + 1 = p + (n - m) by omega]
  simp [List.getD_eq_getElem?_getD, show p + (n - (m + 1)) < ds.length by omega]
end Go.Proofs.Ythcaejaaalkglaa.X
/- The sum CRC-32 of bytes, as a plain function; two rows of bytes that differ at one place have different sums. -/
namespace Go.Proofs.Ythcaejaaalkglaa.X
open Go
set_option linter.unusedVariables false
def gBit (x : Int) : Int := if bits .and .u32 x 1 ≠ 0 then bits .xor .u32 (x / 2) 3988292384 else x / 2
def gN : Nat → Int → Int
  | 0, x => x
  | k + 1, x => gN k (gBit x)
def gByte (x : Int) (b : UInt8) : Int := gN 8 (bits .xor .u32 x (b.toNat : Int))
theorem gByte_eq (x : Int) (b : UInt8) : gN (8 - 0) (bits .xor .u32 x (b.toNat : Int)) = gByte x b := rfl
def gC (bs : List UInt8) (x : Int) : Int := bs.foldl gByte x
def crc32 (bs : List UInt8) : Int := bits .xor .u32 4294967295 (gC bs 4294967295)
theorem gC_drop (bs : List UInt8) (i : Nat) (y : Int) (h : i < bs.length) : gC (bs.drop i) y = gC (bs.drop (i + 1)) (gByte y (bs.getD i 0)) := by
  rw [List.drop_eq_getElem_cons h]
  simp only [gC, List.foldl_cons]
  simp [List.getD_eq_getElem?_getD, h]
/-! ### as words of 32 bits -/
def vB (x : Int) : BitVec 32 := BitVec.ofInt 32 x
theorem vB_toNat {x : Int} (h : 0 ≤ x ∧ x < 4294967296) : ((vB x).toNat : Int) = x := by
  unfold vB; rw [BitVec.toNat_ofInt]; omega
theorem vB_inj {x y : Int} (hx : 0 ≤ x ∧ x < 4294967296) (hy : 0 ≤ y ∧ y < 4294967296) (h : vB x = vB y) : x = y := by
  rw [← vB_toNat hx, ← vB_toNat hy, h]
theorem bits_rng (f : BinOp) (hf : f = .xor ∨ f = .and) (a b : Int) : 0 ≤ bits f .u32 a b ∧ bits f .u32 a b < 4294967296 := by
  rcases hf with rfl | rfl
  · have e : bits .xor .u32 a b = IntKind.u32.wrap ((BitVec.ofInt 32 a ^^^ BitVec.ofInt 32 b).toNat : Int) := rfl
    rw [e, m_u32]; omega
  · have e : bits .and .u32 a b = IntKind.u32.wrap ((BitVec.ofInt 32 a &&& BitVec.ofInt 32 b).toNat : Int) := rfl
    rw [e, m_u32]; omega
theorem vB_xor (a b : Int) : vB (bits .xor .u32 a b) = vB a ^^^ vB b := by
  have e : bits .xor .u32 a b = IntKind.u32.wrap ((BitVec.ofInt 32 a ^^^ BitVec.ofInt 32 b).toNat : Int) := rfl
  have h := (BitVec.ofInt 32 a ^^^ BitVec.ofInt 32 b).isLt
  rw [e, w_u32 (by omega)]
  unfold vB
  apply BitVec.eq_of_toNat_eq
  rw [BitVec.toNat_ofInt]; omega
theorem vB_half {x : Int} (h : 0 ≤ x ∧ x < 4294967296) : vB (x / 2) = vB x >>> 1 := by
  apply BitVec.eq_of_toNat_eq
  unfold vB
  rw [BitVec.toNat_ushiftRight, BitVec.toNat_ofInt, BitVec.toNat_ofInt, Nat.shiftRight_eq_div_pow]
  omega
def low (v : BitVec 32) : Bool := v.getLsbD 0
theorem and1_low (x : Int) : (bits .and .u32 x 1 ≠ 0) ↔ low (vB x) = true := by
  have e : bits .and .u32 x 1 = IntKind.u32.wrap ((BitVec.ofInt 32 x &&& BitVec.ofInt 32 1).toNat : Int) := rfl
  have h1 : (BitVec.ofInt 32 x &&& BitVec.ofInt 32 1).toNat = (vB x).toNat % 2 := by
    rw [BitVec.toNat_and, show (BitVec.ofInt 32 1).toNat = 2 ^ 1 - 1 from rfl, Nat.and_two_pow_sub_one_eq_mod]; rfl
  rw [e, h1, w_u32 (by omega)]
  unfold low
  rw [BitVec.getLsbD, Nat.testBit_zero]
  simp; omega
def poly : BitVec 32 := 3988292384#32
def gb (v : BitVec 32) : BitVec 32 := if low v then (v >>> 1) ^^^ poly else v >>> 1
theorem gBit_rng {x : Int} (h : 0 ≤ x ∧ x < 4294967296) : 0 ≤ gBit x ∧ gBit x < 4294967296 := by
  unfold gBit
  split
  · exact bits_rng .xor (.inl rfl) _ _
  · omega
theorem gBit_vB {x : Int} (h : 0 ≤ x ∧ x < 4294967296) : vB (gBit x) = gb (vB x) := by
  unfold gBit gb
  by_cases hl : low (vB x) = true
  · rw [if_pos ((and1_low x).2 hl), if_pos hl, vB_xor, vB_half h]; rfl
  · rw [if_neg (fun hn => hl ((and1_low x).1 hn)), if_neg hl, vB_half h]
theorem gb_msb (v : BitVec 32) : (gb v).getLsbD 31 = low v := by
  unfold gb
  split
  · rename_i h
    rw [BitVec.getLsbD_xor, BitVec.getLsbD_ushiftRight, BitVec.getLsbD_of_ge _ _ (by decide), h]; decide
  · rename_i h
    rw [BitVec.getLsbD_ushiftRight, BitVec.getLsbD_of_ge _ _ (by decide)]
    simpa using h
theorem gb_inj {u v : BitVec 32} (h : gb u = gb v) : u = v := by
  have hl : low u = low v := by rw [← gb_msb, ← gb_msb, h]
  have hs : u >>> 1 = v >>> 1 := by
    unfold gb at h
    rw [hl] at h
    split at h
    · have := congrArg (· ^^^ poly) h
      simpa [BitVec.xor_assoc] using this
    · exact h
  apply BitVec.eq_of_getLsbD_eq
  intro i hi
  cases i with
  | zero => exact hl
  | succ i =>
    have := congrArg (fun w => BitVec.getLsbD w i) hs
    simp only [BitVec.getLsbD_ushiftRight] at this
    rw [Nat.add_comm] at this
    exact this
theorem gN_rng : ∀ (k : Nat) {x : Int}, 0 ≤ x ∧ x < 4294967296 → 0 ≤ gN k x ∧ gN k x < 4294967296
  | 0, x, h => h
  | k + 1, x, h => gN_rng k (gBit_rng h)
theorem gN_inj : ∀ (k : Nat) {x y : Int}, 0 ≤ x ∧ x < 4294967296 → 0 ≤ y ∧ y < 4294967296 → gN k x = gN k y → x = y
  | 0, x, y, hx, hy, h => h
  | k + 1, x, y, hx, hy, h => by
    have := gN_inj k (gBit_rng hx) (gBit_rng hy) h
    refine vB_inj hx hy (gb_inj ?_)
    rw [← gBit_vB hx, ← gBit_vB hy, this]
theorem gByte_rng (x : Int) (b : UInt8) : 0 ≤ gByte x b ∧ gByte x b < 4294967296 := gN_rng 8 (bits_rng .xor (.inl rfl) _ _)
theorem gByte_left {x y : Int} {b : UInt8} (hx : 0 ≤ x ∧ x < 4294967296) (hy : 0 ≤ y ∧ y < 4294967296) (h : gByte x b = gByte y b) : x = y := by
  have h1 := gN_inj 8 (bits_rng .xor (.inl rfl) _ _) (bits_rng .xor (.inl rfl) _ _) h
  have h2 := congrArg vB h1
  rw [vB_xor, vB_xor] at h2
  refine vB_inj hx hy ?_
  have := congrArg (· ^^^ vB (b.toNat : Int)) h2
  simpa [BitVec.xor_assoc] using this
theorem gByte_right {x : Int} {b c : UInt8} (h : gByte x b = gByte x c) : b = c := by
  have h1 := gN_inj 8 (bits_rng .xor (.inl rfl) _ _) (bits_rng .xor (.inl rfl) _ _) h
  have h2 := congrArg vB h1
  rw [vB_xor, vB_xor] at h2
  have h3 : vB (b.toNat : Int) = vB (c.toNat : Int) := by
    have := congrArg (vB x ^^^ ·) h2
    simpa [← BitVec.xor_assoc] using this
  have hb := b.toNat_lt; have hc := c.toNat_lt
  have := vB_inj (by omega) (by omega) h3
  exact UInt8.toNat.inj (by omega)
theorem gC_rng : ∀ (bs : List UInt8) {x : Int}, 0 ≤ x ∧ x < 4294967296 → 0 ≤ gC bs x ∧ gC bs x < 4294967296
  | [], x, h => h
  | b :: r, x, h => gC_rng r (gByte_rng x b)
theorem gC_inj : ∀ (bs : List UInt8) {x y : Int}, 0 ≤ x ∧ x < 4294967296 → 0 ≤ y ∧ y < 4294967296 → gC bs x = gC bs y → x = y
  | [], x, y, hx, hy, h => h
  | b :: r, x, y, hx, hy, h => gByte_left hx hy (gC_inj r (gByte_rng _ _) (gByte_rng _ _) h)
theorem gC_app (xs ys : List UInt8) (x : Int) : gC (xs ++ ys) x = gC ys (gC xs x) := List.foldl_append
/-- One byte is another one: the sum is another one. -/
theorem gC_set {bs : List UInt8} {i : Nat} {u : UInt8} {x : Int} (hi : i < bs.length) (hu : bs[i]? ≠ some u) (hx : 0 ≤ x ∧ x < 4294967296) : gC (bs.set i u) x ≠ gC bs x := by
  intro h
  have e1 : bs.set i u = bs.take i ++ u :: bs.drop (i + 1) := by rw [List.set_eq_take_append_cons_drop, if_pos hi]
  have e2 : bs = bs.take i ++ bs[i] :: bs.drop (i + 1) := by rw [← List.drop_eq_getElem_cons hi, List.take_append_drop]
  rw [e1] at h
  conv at h => rhs; rw [e2]
  rw [gC_app, gC_app] at h
  simp only [gC, List.foldl_cons] at h
  have h1 := gC_inj (bs.drop (i + 1)) (gByte_rng _ _) (gByte_rng _ _) h
  have h2 := gByte_right h1
  exact hu (by rw [List.getElem?_eq_getElem hi, h2])
theorem xor_max_inj {x y : Int} (hx : 0 ≤ x ∧ x < 4294967296) (hy : 0 ≤ y ∧ y < 4294967296) (h : bits .xor .u32 4294967295 x = bits .xor .u32 4294967295 y) : x = y := by
  have h2 := congrArg vB h
  rw [vB_xor, vB_xor] at h2
  refine vB_inj hx hy ?_
  have := congrArg (vB 4294967295 ^^^ ·) h2
  simpa [← BitVec.xor_assoc] using this
theorem crc32_set {bs : List UInt8} {i : Nat} {u : UInt8} (hi : i < bs.length) (hu : bs[i]? ≠ some u) : crc32 (bs.set i u) ≠ crc32 bs := by
  intro h
  exact gC_set hi hu (by decide) (xor_max_inj (gC_rng _ (by decide)) (gC_rng _ (by decide)) h)
theorem crc32_rng (bs : List UInt8) : 0 ≤ crc32 bs ∧ crc32 bs ≤ 4294967295 := by
  have := bits_rng .xor (.inl rfl) 4294967295 (gC bs 4294967295)
  unfold crc32; omega
theorem gAnd1 (x : Int) : bits .and .u32 x 1 = 0 ∨ bits .and .u32 x 1 = 1 := by
  have e : bits .and .u32 x 1 = IntKind.u32.wrap ((BitVec.ofInt 32 x &&& BitVec.ofInt 32 1).toNat : Int) := rfl
  have h1 : (BitVec.ofInt 32 x &&& BitVec.ofInt 32 1).toNat = (vB x).toNat % 2 := by
    rw [BitVec.toNat_and, show (BitVec.ofInt 32 1).toNat = 2 ^ 1 - 1 from rfl, Nat.and_two_pow_sub_one_eq_mod]; rfl
  rw [e, h1, w_u32 (by omega)]
  omega
end Go.Proofs.Ythcaejaaalkglaa.X
/- Identifiers of sixteen bytes and their texts, as plain functions. -/
namespace Go.Proofs.Ythcaejaaalkglaa.X
open Go
set_option linter.unusedVariables false
set_option linter.unusedSimpArgs false
/-- The value of a hexadecimal digit. -/
def hexN (n : Int) : Int := if 48 ≤ n ∧ n ≤ 57 then n - 48 else if 97 ≤ n ∧ n ≤ 102 then n - 97 + 10 else if 65 ≤ n ∧ n ≤ 70 then n - 65 + 10 else -1
def nib (s : List UInt8) (i : Nat) : Int := hexN ((s.getD i 0).toNat : Int)
theorem hexN_rng (n : Int) : -1 ≤ hexN n ∧ hexN n ≤ 15 := by
  unfold hexN; split
  · omega
  · split
    · omega
    · split <;> omega
/-- Two digits' byte. -/
def byteAt (s : List UInt8) (i : Nat) : UInt8 := b8 (nib s i * 16 + nib s (i + 1))
/-- Where a disk's byte stands in the text; the text's order; the places of all digits. -/
def gPos : List Nat := [6, 4, 2, 0, 11, 9, 16, 14, 19, 21, 24, 26, 28, 30, 32, 34]
def tPos : List Nat := [0, 2, 4, 6, 9, 11, 14, 16, 19, 21, 24, 26, 28, 30, 32, 34]
def ordL : List Nat := [3, 2, 1, 0, 5, 4, 7, 6, 8, 9, 10, 11, 12, 13, 14, 15]
def dashB (i : Nat) : Bool := i == 8 || i == 13 || i == 18 || i == 23
/-- May the i-th letter stand there? -/
def okAt (s : List UInt8) (i : Nat) : Bool := if dashB i then (s.getD i 0).toNat == 45 else decide (0 ≤ nib s i)
def gOk (s : List UInt8) : Bool := s.length == 36 && (List.range 36).all (okAt s)
/-- The identifier's bytes as they stand on a disk. -/
def gRaw (s : List UInt8) : List UInt8 := gPos.map (byteAt s)
def gB (s : List UInt8) : List UInt8 := if gOk s then gRaw s else List.replicate 16 0
theorem gB_len (s : List UInt8) : (gB s).length = 16 := by unfold gB; split <;> rfl
/-- What has been laid when the i-th letter is to be read; how many digits are before it. -/
def gPart (s : List UInt8) (i : Nat) : List UInt8 := gPos.map fun p => cond (Nat.ble (p + 2) i) (byteAt s p) (cond (Nat.ble (p + 1) i) (b8 (nib s p)) 0)
def cntH (i : Nat) : Nat := i - (cond (Nat.ble 9 i) 1 0 + cond (Nat.ble 14 i) 1 0 + cond (Nat.ble 19 i) 1 0 + cond (Nat.ble 24 i) 1 0)
theorem gPart_len (s : List UInt8) (i : Nat) : (gPart s i).length = 16 := rfl
theorem gPart_end (s : List UInt8) : gPart s 36 = gRaw s := rfl
theorem gPart_zero (s : List UInt8) : gPart s 0 = List.replicate 16 0 := rfl
theorem cntH_dash {i : Nat} (h : dashB i = true) : cntH (i + 1) = cntH i := by
  unfold dashB at h
  simp only [Bool.or_eq_true, beq_iff_eq] at h
  rcases h with ((rfl | rfl) | rfl) | rfl <;> rfl
theorem gPart_dash {s : List UInt8} {i : Nat} (h : dashB i = true) : gPart s (i + 1) = gPart s i := by
  unfold dashB at h
  simp only [Bool.or_eq_true, beq_iff_eq] at h
  rcases h with ((rfl | rfl) | rfl) | rfl <;> rfl
theorem cases36 {p : Nat → Prop} (h : ∀ i : Fin 36, p i.val) : ∀ i, i < 36 → p i := fun i hi => h ⟨i, hi⟩
theorem cntH_hex : ∀ i, i < 36 → dashB i = false → cntH (i + 1) = cntH i + 1 ∧ cntH i < 32 := by
  exact cases36 (p := fun i => dashB i = false → cntH (i + 1) = cntH i + 1 ∧ cntH i < 32) (by decide)
theorem ord_lt : ∀ i, i < 36 → dashB i = false → ordL.getD (cntH i / 2) 0 < 16 := by
  exact cases36 (p := fun i => dashB i = false → ordL.getD (cntH i / 2) 0 < 16) (by decide)
theorem bor_u8 {x y : Nat} (hx : x < 256) (hy : y < 256) : bits .or .u8 (x : Int) (y : Int) = ((x ||| y : Nat) : Int) := by
  have e : bits .or .u8 (x : Int) (y : Int) = IntKind.u8.wrap ((BitVec.ofInt 8 (x : Int) ||| BitVec.ofInt 8 (y : Int)).toNat : Int) := rfl
  have hx' : (BitVec.ofInt 8 (x : Int)).toNat = x := by rw [BitVec.toNat_ofInt]; omega
  have hy' : (BitVec.ofInt 8 (y : Int)).toNat = y := by rw [BitVec.toNat_ofInt]; omega
  have hlt : x ||| y < 256 := Nat.or_lt_two_pow (n := 8) hx hy
  rw [e, BitVec.toNat_or, hx', hy', w_u8 (by omega)]
theorem or_nib {x y : Int} (hx : 0 ≤ x ∧ x ≤ 255) (hy : 0 ≤ y ∧ y ≤ 15) : bits .or .u8 (x * 16 % 256) y = x * 16 % 256 + y := by
  obtain ⟨a, rfl⟩ := Int.eq_ofNat_of_zero_le hx.1
  obtain ⟨b, rfl⟩ := Int.eq_ofNat_of_zero_le hy.1
  have e : (a : Int) * 16 % 256 = (((a % 16) * 2 ^ 4 : Nat) : Int) := by omega
  have h1 := Nat.shiftLeft_add_eq_or_of_lt (i := 4) (b := b) (by omega) (a % 16)
  rw [Nat.shiftLeft_eq] at h1
  rw [e, bor_u8 (by omega) (by omega), ← h1]
  omega
/-- The step at a digit. -/
theorem gPart_step {s : List UInt8} {i : Nat} (hi : i < 36) (hd : dashB i = false) (h : ∀ j, j < i + 1 → okAt s j = true) :
    (gPart s i).set (ordL.getD (cntH i / 2) 0) (b8 ((((gPart s i).getD (ordL.getD (cntH i / 2) 0) 0).toNat : Int) * 16 % 256 + nib s i)) = gPart s (i + 1) := by
  have hn : 0 ≤ nib s i ∧ nib s i ≤ 15 := by
    have := h i (by omega)
    unfold okAt at this
    rw [hd] at this
    exact ⟨by simpa using this, (hexN_rng _).2⟩
  have key : ∀ a b : Int, 0 ≤ a ∧ a ≤ 15 → 0 ≤ b ∧ b ≤ 15 → b8 (((b8 a).toNat : Int) * 16 % 256 + b) = b8 (a * 16 + b) := fun a b ha hb => by
    have := u8v_b8 (a := a) (by omega)
    unfold u8v at this
    have e : ((b8 a).toNat : Int) = a := by simpa using this
    rw [e]; congr 1; omega
  have h0 : ∀ b : Int, 0 ≤ b ∧ b ≤ 15 → b8 (((0 : UInt8).toNat : Int) * 16 % 256 + b) = b8 b := fun b hb => by simp
  have hp : ∀ j, j + 1 < 36 → dashB j = false → dashB (j + 1) = false → j + 1 = i → 0 ≤ nib s j ∧ nib s j ≤ 15 := fun j h1 h2 h3 h4 => by
    have := h j (by omega)
    unfold okAt at this
    rw [h2] at this
    exact ⟨by simpa using this, (hexN_rng _).2⟩
  revert hn hp
  revert hd
  clear h
  revert hi
  match i with
  | n + 36 => intro h; exact absurd h (by omega)
  | 0 => intro _ _ hn hp; exact congrArg (fun x => (gPart s 0).set 3 x) (h0 _ hn)
  | 1 => intro _ _ hn hp; exact congrArg (fun x => (gPart s 1).set 3 x) (key _ _ (hp 0 (by decide) rfl rfl rfl) hn)
  | 2 => intro _ _ hn hp; exact congrArg (fun x => (gPart s 2).set 2 x) (h0 _ hn)
  | 3 => intro _ _ hn hp; exact congrArg (fun x => (gPart s 3).set 2 x) (key _ _ (hp 2 (by decide) rfl rfl rfl) hn)
  | 4 => intro _ _ hn hp; exact congrArg (fun x => (gPart s 4).set 1 x) (h0 _ hn)
  | 5 => intro _ _ hn hp; exact congrArg (fun x => (gPart s 5).set 1 x) (key _ _ (hp 4 (by decide) rfl rfl rfl) hn)
  | 6 => intro _ _ hn hp; exact congrArg (fun x => (gPart s 6).set 0 x) (h0 _ hn)
  | 7 => intro _ _ hn hp; exact congrArg (fun x => (gPart s 7).set 0 x) (key _ _ (hp 6 (by decide) rfl rfl rfl) hn)
  | 8 => intro _ hd; cases hd
  | 9 => intro _ _ hn hp; exact congrArg (fun x => (gPart s 9).set 5 x) (h0 _ hn)
  | 10 => intro _ _ hn hp; exact congrArg (fun x => (gPart s 10).set 5 x) (key _ _ (hp 9 (by decide) rfl rfl rfl) hn)
  | 11 => intro _ _ hn hp; exact congrArg (fun x => (gPart s 11).set 4 x) (h0 _ hn)
  | 12 => intro _ _ hn hp; exact congrArg (fun x => (gPart s 12).set 4 x) (key _ _ (hp 11 (by decide) rfl rfl rfl) hn)
  | 13 => intro _ hd; cases hd
  | 14 => intro _ _ hn hp; exact congrArg (fun x => (gPart s 14).set 7 x) (h0 _ hn)
  | 15 => intro _ _ hn hp; exact congrArg (fun x => (gPart s 15).set 7 x) (key _ _ (hp 14 (by decide) rfl rfl rfl) hn)
  | 16 => intro _ _ hn hp; exact congrArg (fun x => (gPart s 16).set 6 x) (h0 _ hn)
  | 17 => intro _ _ hn hp; exact congrArg (fun x => (gPart s 17).set 6 x) (key _ _ (hp 16 (by decide) rfl rfl rfl) hn)
  | 18 => intro _ hd; cases hd
  | 19 => intro _ _ hn hp; exact congrArg (fun x => (gPart s 19).set 8 x) (h0 _ hn)
  | 20 => intro _ _ hn hp; exact congrArg (fun x => (gPart s 20).set 8 x) (key _ _ (hp 19 (by decide) rfl rfl rfl) hn)
  | 21 => intro _ _ hn hp; exact congrArg (fun x => (gPart s 21).set 9 x) (h0 _ hn)
  | 22 => intro _ _ hn hp; exact congrArg (fun x => (gPart s 22).set 9 x) (key _ _ (hp 21 (by decide) rfl rfl rfl) hn)
  | 23 => intro _ hd; cases hd
  | 24 => intro _ _ hn hp; exact congrArg (fun x => (gPart s 24).set 10 x) (h0 _ hn)
  | 25 => intro _ _ hn hp; exact congrArg (fun x => (gPart s 25).set 10 x) (key _ _ (hp 24 (by decide) rfl rfl rfl) hn)
  | 26 => intro _ _ hn hp; exact congrArg (fun x => (gPart s 26).set 11 x) (h0 _ hn)
  | 27 => intro _ _ hn hp; exact congrArg (fun x => (gPart s 27).set 11 x) (key _ _ (hp 26 (by decide) rfl rfl rfl) hn)
  | 28 => intro _ _ hn hp; exact congrArg (fun x => (gPart s 28).set 12 x) (h0 _ hn)
  | 29 => intro _ _ hn hp; exact congrArg (fun x => (gPart s 29).set 12 x) (key _ _ (hp 28 (by decide) rfl rfl rfl) hn)
  | 30 => intro _ _ hn hp; exact congrArg (fun x => (gPart s 30).set 13 x) (h0 _ hn)
  | 31 => intro _ _ hn hp; exact congrArg (fun x => (gPart s 31).set 13 x) (key _ _ (hp 30 (by decide) rfl rfl rfl) hn)
  | 32 => intro _ _ hn hp; exact congrArg (fun x => (gPart s 32).set 14 x) (h0 _ hn)
  | 33 => intro _ _ hn hp; exact congrArg (fun x => (gPart s 33).set 14 x) (key _ _ (hp 32 (by decide) rfl rfl rfl) hn)
  | 34 => intro _ _ hn hp; exact congrArg (fun x => (gPart s 34).set 15 x) (h0 _ hn)
  | 35 => intro _ _ hn hp; exact congrArg (fun x => (gPart s 35).set 15 x) (key _ _ (hp 34 (by decide) rfl rfl rfl) hn)
theorem gOk_of {s : List UInt8} (hl : s.length = 36) (h : ∀ j, j < 36 → okAt s j = true) : gOk s = true := by
  unfold gOk
  rw [hl]
  simp only [beq_self_eq_true, Bool.true_and, List.all_eq_true, List.mem_range]
  exact h
theorem gOk_at {s : List UInt8} (h : gOk s = true) : s.length = 36 ∧ ∀ j, j < 36 → okAt s j = true := by
  unfold gOk at h
  simp only [Bool.and_eq_true, beq_iff_eq, List.all_eq_true, List.mem_range] at h
  exact h
theorem gOk_not {s : List UInt8} {j : Nat} (hj : j < 36) (h : okAt s j = false) : gOk s = false := by
  cases hg : gOk s with
  | false => rfl
  | true => rw [(gOk_at hg).2 j hj] at h; cases h
theorem gOk_len {s : List UInt8} (h : s.length ≠ 36) : gOk s = false := by
  cases hg : gOk s with
  | false => rfl
  | true => exact absurd (gOk_at hg).1 h
theorem gB_ok {s : List UInt8} (h : gOk s = true) : gB s = gRaw s := by unfold gB; rw [if_pos h]
theorem gB_not {s : List UInt8} (h : gOk s = false) : gB s = List.replicate 16 0 := by unfold gB; rw [h]; rfl
theorem dash_t {i : Nat} (h : (i : Int) = 8 ∨ (i : Int) = 13 ∨ (i : Int) = 18 ∨ (i : Int) = 23) : true = dashB i := by
  have : i = 8 ∨ i = 13 ∨ i = 18 ∨ i = 23 := by omega
  rcases this with rfl | rfl | rfl | rfl <;> rfl
theorem dash_d {i : Nat} (h1 : ¬ (i : Int) = 8) (h2 : ¬ (i : Int) = 13) (h3 : ¬ (i : Int) = 18) : decide ((i : Int) = 23) = dashB i := by
  unfold dashB
  have e1 : (i == 8) = false := by simp; omega
  have e2 : (i == 13) = false := by simp; omega
  have e3 : (i == 18) = false := by simp; omega
  rw [e1, e2, e3]
  simp only [Bool.false_or]
  rw [Bool.eq_iff_iff]; simp; omega
theorem ord_get {k : Nat} (h : k < 16) : (ordL.map fun (k : Nat) => Value.int .i64 (k : Int))[k]? = some (.int .i64 ((ordL.getD k 0 : Nat) : Int)) := by
  have hl : k < ordL.length := h
  simp [List.getD_eq_getElem?_getD, hl]
theorem okAt_dash {s : List UInt8} {i : Nat} (hd : dashB i = true) (h : ((s.getD i 0).toNat : Int) = 45) : okAt s i = true := by
  unfold okAt; rw [if_pos hd]; exact beq_iff_eq.2 (by omega)
theorem okAt_dash_f {s : List UInt8} {i : Nat} (hd : dashB i = true) (h : ((s.getD i 0).toNat : Int) ≠ 45) : okAt s i = false := by
  unfold okAt; rw [if_pos hd]; exact beq_eq_false_iff_ne.2 (by omega)
theorem okAt_hex {s : List UInt8} {i : Nat} (hd : dashB i = false) (h : ¬ nib s i < 0) : okAt s i = true := by
  unfold okAt; rw [hd]; simp; omega
theorem okAt_hex_f {s : List UInt8} {i : Nat} (hd : dashB i = false) (h : nib s i < 0) : okAt s i = false := by
  unfold okAt; rw [hd]; simp; omega
theorem okAt_next {s : List UInt8} {i : Nat} (h : ∀ j, j < i → okAt s j = true) (hi : okAt s i = true) : ∀ j, j < i + 1 → okAt s j = true := fun j hj => by
  rcases Nat.lt_or_ge j i with h1 | h1
  · exact h j h1
  · obtain rfl : j = i := by omega
    exact hi
/-- Are two texts the same identifier? -/
def sameG (a b : List UInt8) : Bool := gOk a && gOk b && decide (gB a = gB b)
/-- The text of an identifier as it stands on a disk. -/
def capL : List UInt8 := [48, 49, 50, 51, 52, 53, 54, 55, 56, 57, 65, 66, 67, 68, 69, 70]
def dashT (k : Nat) : Bool := k == 4 || k == 6 || k == 8 || k == 10
def gTk (b : List UInt8) (k : Nat) : List UInt8 := (if dashT k then [45] else []) ++ [capL.getD ((b.getD (ordL.getD k 0) 0).toNat / 16) 0, capL.getD ((b.getD (ordL.getD k 0) 0).toNat % 16) 0]
def gT (b : List UInt8) : List UInt8 := (List.range 16).flatMap (gTk b)
def gTp (b : List UInt8) (i : Nat) : List UInt8 := (List.range i).flatMap (gTk b)
theorem gTp_succ (b : List UInt8) (i : Nat) : gTp b (i + 1) = gTp b i ++ gTk b i := by simp [gTp, List.range_succ]
theorem and15 {x : Nat} (h : x < 256) : bits .and .u8 (x : Int) 15 = ((x % 16 : Nat) : Int) := by
  have e : bits .and .u8 (x : Int) 15 = IntKind.u8.wrap ((BitVec.ofInt 8 (x : Int) &&& BitVec.ofInt 8 15).toNat : Int) := rfl
  have hx' : (BitVec.ofInt 8 (x : Int)).toNat = x := by rw [BitVec.toNat_ofInt]; omega
  rw [e, BitVec.toNat_and, hx', show (BitVec.ofInt 8 15).toNat = 2 ^ 4 - 1 from rfl, Nat.and_two_pow_sub_one_eq_mod, w_u8 (by omega)]
theorem dashT_t {i : Nat} (h : (i : Int) = 4 ∨ (i : Int) = 6 ∨ (i : Int) = 8 ∨ (i : Int) = 10) : true = dashT i := by
  have : i = 4 ∨ i = 6 ∨ i = 8 ∨ i = 10 := by omega
  rcases this with rfl | rfl | rfl | rfl <;> rfl
theorem dashT_d {i : Nat} (h1 : ¬ (i : Int) = 4) (h2 : ¬ (i : Int) = 6) (h3 : ¬ (i : Int) = 8) : decide ((i : Int) = 10) = dashT i := by
  unfold dashT
  have e1 : (i == 4) = false := by simp; omega
  have e2 : (i == 6) = false := by simp; omega
  have e3 : (i == 8) = false := by simp; omega
  rw [e1, e2, e3]
  simp only [Bool.false_or]
  rw [Bool.eq_iff_iff]; simp; omega
theorem ord_lt16 : ∀ k, k < 16 → ordL.getD k 0 < 16 := fun k hk => by
  have : ∀ k : Fin 16, ordL.getD k.val 0 < 16 := by decide
  exact this ⟨k, hk⟩
end Go.Proofs.Ythcaejaaalkglaa.X
