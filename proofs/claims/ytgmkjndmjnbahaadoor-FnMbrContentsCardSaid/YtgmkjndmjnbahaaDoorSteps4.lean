/- The laws of single operations: elements of arrays, tables that are written out, appending, slices and pointers against nil. -/
import Derived.Test.YtgmkjndmjnbahaaDoorSteps3
import Derived.Laws.AppendOwn
namespace Go.Proofs.YtgmkjndmjnbahaaDoor.X
set_option linter.unusedVariables false
open Go Go.RowKit
section steps
variable {P : Program} {n : Nat} {ops : Array Oper} {Q : Post} {rest : List Oper} {ρ : Env} {w : World} {ty : TypeId} {pos : String} {af : Array Edge} {d : Nat}
/-- The element of an array that is a value. -/
theorem ixV {t e : TypeId} {x i : Operand} {cs : List Value} {j : IntKind} {z : Int} {m : Nat} {v : Value} (hx : ev ρ x = .agg cs.toArray) (hi : ev ρ i = .int j z) (hu : P.underlying t = some (.array m e)) (hs : scalarB P e = true) (hsz : sizeB P e 1 = true) (hz : 0 ≤ z ∧ z < m) (hv : cs[z.toNat]? = some v) (hn : Nat.blt d n = true) (kk : wl P n ops Q rest (upd ρ d v) w) : wl P n ops Q (⟨some d, .index t x i, ty, pos, af, none⟩ :: rest) ρ w :=
  val rfl rfl hn (by simp [execOp, hx, hi, Instr.index, asIntOf, run_underlying hu, hz.1, hz.2, run_sizeOf hsz, part, run_isAgg_scalar hs, hv]) kk
/-- .. if the elements are of several cells. -/
theorem ixW {t e : TypeId} {x i : Operand} {cs vs : List Value} {j : IntKind} {z : Int} {m sz : Nat} (hx : ev ρ x = .agg cs.toArray) (hi : ev ρ i = .int j z) (hu : P.underlying t = some (.array m e)) (hs : aggB P e sz = true) (hz : 0 ≤ z ∧ z < m) (hv : (cs.drop (z.toNat * sz)).take sz = vs) (hn : Nat.blt d n = true) (kk : wl P n ops Q rest (upd ρ d (.agg vs.toArray)) w) : wl P n ops Q (⟨some d, .index t x i, ty, pos, af, none⟩ :: rest) ρ w :=
  val rfl rfl hn (by subst hv; simp [execOp, hx, hi, Instr.index, asIntOf, run_underlying hu, hz.1, hz.2, run_sizeOf (size_of_agg hs), part, run_isAgg_agg hs]) kk
/-- An element's address, whatever the slice's. -/
theorem addr_mul (a : Addr) (k : Nat) : (a.add k).block = a.block := by unfold Addr.add; split <;> rfl
theorem iB {t e : TypeId} {x i : Operand} {ad : Addr} {len cap sz : Nat} {j : IntKind} {z : Int} (hx : ev ρ x = .slice (some ad) len cap) (hi : ev ρ i = .int j z) (hu : P.underlying t = some (.slice e)) (hs : sizeB P e sz = true) (hz : 0 ≤ z ∧ z < len) (hn : Nat.blt d n = true) (kk : wl P n ops Q rest (upd ρ d (.pointer (some (ad.add (z.toNat * sz))))) w) : wl P n ops Q (⟨some d, .indexAddr t x i, ty, pos, af, none⟩ :: rest) ρ w :=
  val rfl rfl hn (by simp [execOp, hx, hi, Instr.indexAt, asIntOf, run_underlying hu, hz.1, hz.2, run_sizeOf hs]) kk
theorem iyB {t e : TypeId} {x i : Operand} {ad : Addr} {len sz : Nat} {j : IntKind} {z : Int} (hx : ev ρ x = .pointer (some ad)) (hi : ev ρ i = .int j z) (hu : P.underlying t = some (.array len e)) (hs : sizeB P e sz = true) (hz : 0 ≤ z ∧ z < len) (hn : Nat.blt d n = true) (kk : wl P n ops Q rest (upd ρ d (.pointer (some (ad.add (z.toNat * sz))))) w) : wl P n ops Q (⟨some d, .indexAddr t x i, ty, pos, af, none⟩ :: rest) ρ w :=
  val rfl rfl hn (by simp [execOp, hx, hi, Instr.indexAt, asIntOf, run_underlying hu, hz.1, hz.2, run_sizeOf hs, Instr.sureAddr]) kk
/-- A struct or an array is loaded whose cells are known. -/
theorem lw {t : TypeId} {x : Operand} {ad : Addr} {m : Nat} {vs : List Value} (hx : ev ρ x = .pointer (some ad)) (hs : aggB P t m = true) (hm : vs.length = m) (hc : ∀ j v, vs[j]? = some v → w.cell? (ad.add j) = some v) (hn : Nat.blt d n = true) (kk : wl P n ops Q rest (upd ρ d (.agg vs.toArray)) w) : wl P n ops Q (⟨some d, .load t x, ty, pos, af, none⟩ :: rest) ρ w :=
  val rfl rfl hn (by
    have hl := run_loadVar_agg (P := P) (w := w) (a := ad) hs hm hc
    simp [execOp, hx, Instr.loadAt, Instr.sureAddr, hl]) kk
/-! #### what is built of constants -/
def cval : Operand → Value
  | .const v => v
  | _ => .tuple #[]
def constB : Operand → Bool
  | .const _ => true
  | _ => false
def builtC (P : Program) (t : TypeId) (ps : List (Nat × Operand)) : Option (List Value) :=
  if ps.all (fun p => constB p.2) then (P.built t (ps.map fun p => (p.1, cval p.2))).map (·.toList) else none
theorem buK {t : TypeId} {ps : List (Nat × Operand)} {out : List Value} (hb : builtC P t ps = some out) (hn : Nat.blt d n = true) (kk : wl P n ops Q rest (upd ρ d (.agg out.toArray)) w) : wl P n ops Q (⟨some d, .build t ps.toArray, ty, pos, af, none⟩ :: rest) ρ w :=
  val rfl rfl hn (by
    unfold builtC at hb
    split at hb
    · rename_i ha
      obtain ⟨o, ho, rfl⟩ := Option.map_eq_some_iff.1 hb
      have e : ps.map (fun p => (p.1, ev ρ p.2)) = ps.map fun p => (p.1, cval p.2) := by
        apply List.map_congr_left
        intro p hp
        have := List.all_eq_true.1 ha p hp
        cases hq : p.2 <;> simp [hq, constB] at this
        simp [cval, ev]
      have hr := run_build (P := P) w t (ps.map fun p => (p.1, ev ρ p.2)).toArray o (by rw [e]; simpa using ho)
      simp only [execOp, List.map_toArray]
      simp [hr]
    · cases hb) kk
/-! #### nil -/
theorem run_eqN {t e : TypeId} {A : Option Addr} {l c : Nat} (hu : P.underlying t = some (.slice e)) : (Op.equal t (.slice A l c) (.slice none 0 0)).run P w = .ok A.isNone w := by
  unfold Op.equal
  rw [show Op.maxDepth = 9999 + 1 from rfl, Op.equalIn]
  cases A <;> simp [run_underlying hu]
theorem eqlN {t u e : TypeId} {x : Operand} {A : Option Addr} {l c : Nat} (hx : ev ρ x = .slice A l c) (hu : P.underlying t = some (.slice e)) (hn : Nat.blt d n = true) (kk : wl P n ops Q rest (upd ρ d (.bool A.isNone)) w) : wl P n ops Q (⟨some d, .binOp .eql t x (.const (.slice none 0 0)) u, ty, pos, af, none⟩ :: rest) ρ w :=
  val rfl rfl hn (by
    have e : ev ρ (.const (.slice none 0 0)) = .slice none 0 0 := rfl
    simp only [execOp, hx, e, eqGuard_at_slice, binOp]
    simp [run_eqN hu]) kk
theorem neqN {t u e : TypeId} {x : Operand} {A : Option Addr} {l c : Nat} (hx : ev ρ x = .slice A l c) (hu : P.underlying t = some (.slice e)) (hn : Nat.blt d n = true) (kk : wl P n ops Q rest (upd ρ d (.bool A.isSome)) w) : wl P n ops Q (⟨some d, .binOp .neq t x (.const (.slice none 0 0)) u, ty, pos, af, none⟩ :: rest) ρ w :=
  val rfl rfl hn (by
    have e : ev ρ (.const (.slice none 0 0)) = .slice none 0 0 := rfl
    simp only [execOp, hx, e, eqGuard_at_slice, binOp]
    cases A <;> simp [run_eqN hu]) kk
theorem run_eqP {t e : TypeId} {A : Option Addr} (hu : P.underlying t = some (.pointer e)) : (Op.equal t (.pointer A) (.pointer none)).run P w = .ok A.isNone w := by
  unfold Op.equal
  rw [show Op.maxDepth = 9999 + 1 from rfl, Op.equalIn]
  cases A <;> simp [run_underlying hu]
theorem eqlP {t u e : TypeId} {x : Operand} {A : Option Addr} (hx : ev ρ x = .pointer A) (hu : P.underlying t = some (.pointer e)) (hn : Nat.blt d n = true) (kk : wl P n ops Q rest (upd ρ d (.bool A.isNone)) w) : wl P n ops Q (⟨some d, .binOp .eql t x (.const (.pointer none)) u, ty, pos, af, none⟩ :: rest) ρ w :=
  val rfl rfl hn (by
    have e : ev ρ (.const (.pointer none)) = .pointer none := rfl
    simp only [execOp, hx, e, eqGuard_at_pointer, binOp]
    simp [run_eqP hu]) kk
theorem neqP {t u e : TypeId} {x : Operand} {A : Option Addr} (hx : ev ρ x = .pointer A) (hu : P.underlying t = some (.pointer e)) (hn : Nat.blt d n = true) (kk : wl P n ops Q rest (upd ρ d (.bool A.isSome)) w) : wl P n ops Q (⟨some d, .binOp .neq t x (.const (.pointer none)) u, ty, pos, af, none⟩ :: rest) ρ w :=
  val rfl rfl hn (by
    have e : ev ρ (.const (.pointer none)) = .pointer none := rfl
    simp only [execOp, hx, e, eqGuard_at_pointer, binOp]
    cases A <;> simp [run_eqP hu]) kk
end steps

theorem Agree.self (S : List Nat) (ρ : Env) : Agree S ρ ρ := fun _ _ => rfl
/-- A cut whose code turns the slots of S alone. -/
theorem ctM {P : Program} {n : Nat} {Q : Post} {ρ : Env} {w : World} {α : Type} {x y : Code} (S : List Nat) (V : α → List (Nat × Value)) (J : α → World → Prop)
    (h : cw P n x (thenQ (fun ρ' w' => ∃ z, J z w' ∧ FitsL ρ' (V z) ∧ Agree S ρ ρ') Q) ρ w) (k : ∀ z ρx w, J z w → cw P n y Q (setL (mask ρ ρx S) (V z)) w) : cw P n (.seq x y) Q ρ w := by
  refine ct _ h ?_
  rintro ρ' w' ⟨z, hJ, hf, ha⟩
  rw [fits_eq hf ha]
  exact k z ρ' w' hJ
/-! #### rows that grow -/
/-- What is needed of the elements' type: the zero cells, the bytes. -/
def rowInfo (P : Program) (e : TypeId) : Option (List Value × Nat) :=
  match P.info? e with
  | some i => (match i.zero with
    | some z => if i.size == z.cells.size && decide (0 < i.size) then some (z.cells.toList, i.bytes) else none
    | none => none)
  | none => none
theorem rowInfo_some {P : Program} {e : TypeId} {zs : List Value} {by_ : Nat} (h : rowInfo P e = some (zs, by_)) : ∃ i z, P.info? e = some i ∧ i.zero = some z ∧ z.cells = zs.toArray ∧ i.size = zs.length ∧ i.bytes = by_ ∧ 0 < zs.length := by
  unfold rowInfo at h
  cases hi : P.info? e with
  | none => simp [hi] at h
  | some i =>
    simp only [hi] at h
    cases hz : i.zero with
    | none => simp [hz] at h
    | some z =>
      simp only [hz] at h
      split at h
      · rename_i hc
        simp only [Bool.and_eq_true, beq_iff_eq, decide_eq_true_eq] at hc
        simp only [Option.some.injEq, Prod.mk.injEq] at h
        obtain ⟨rfl, rfl⟩ := h
        exact ⟨i, z, rfl, hz, by simp, by simp [hc.1], rfl, by simp; omega⟩
      · cases h
/-- A slice that is this call's own: of n elements, their cells xs. -/
structure OR (e : TypeId) (sz : Nat) (w0 : World) (S : List Nat) (w : World) (L : List Ent) (A : Option Addr) (n cap : Nat) (xs : List Value) : Prop where
  len : xs.length = n * sz
  sh : SH w0 S w L
  own : (A = none ∧ n = 0 ∧ cap = 0) ∨ ∃ (b : Nat) (cur : List Value), A = some ⟨b, 0, none⟩ ∧ n ≤ cap ∧ cap ≤ maxLen ∧ cur.length = cap * sz ∧ cur.take (n * sz) = xs ∧ SH w0 S w (⟨b, .cells cur.toArray e (0, 0), true⟩ :: L)
theorem OR.nil {e : TypeId} {sz : Nat} {w0 : World} {S : List Nat} {w : World} {L : List Ent} (H : SH w0 S w L) : OR e sz w0 S w L none 0 0 [] := ⟨by simp, H, .inl ⟨rfl, rfl, rfl⟩⟩
theorem OR.made {e : TypeId} {sz : Nat} {w0 : World} {S : List Nat} {w : World} {L : List Ent} {b n cap : Nat} {cur : List Value} (H : SH w0 S w (⟨b, .cells cur.toArray e (0, 0), true⟩ :: L)) (hn : n ≤ cap) (hc : cap ≤ maxLen) (hl : cur.length = cap * sz) : OR e sz w0 S w L (some ⟨b, 0, none⟩) n cap (cur.take (n * sz)) :=
  ⟨by rw [List.length_take, hl]; exact Nat.min_eq_left (Nat.mul_le_mul_right _ hn), H.drop, .inr ⟨b, cur, rfl, hn, hc, hl, rfl, H⟩⟩
theorem SH.swap {w0 w : World} {S : List Nat} {L : List Ent} {x y : Ent} (H : SH w0 S w (x :: y :: L)) : SH w0 S w (y :: x :: L) := by
  obtain ⟨f, g, a, m⟩ := H
  refine ⟨f, fun z hz => g z ?_, ?_, fun z hz => m z ?_⟩
  · simp only [List.mem_cons] at hz ⊢; rcases hz with h | h | h <;> simp [h]
  · rw [List.pairwise_cons] at a
    obtain ⟨a1, a2⟩ := a
    rw [List.pairwise_cons] at a2
    refine List.Pairwise.cons ?_ (List.Pairwise.cons (fun z hz => a1 z (.tail _ hz)) a2.2)
    intro z hz hm
    rcases List.mem_cons.1 hz with rfl | hz
    · exact (a1 y (.head _) (by rw [Bool.or_comm]; exact hm)).symm
    · exact a2.1 z hz hm
  · simp only [List.mem_cons] at hz ⊢; rcases hz with h | h | h <;> simp [h]
theorem cells_look {w : World} {b : Nat} {cs : List Value} {T : TypeId} {fr : Nat × Nat} (h : w.heap[b]? = some (.cells cs.toArray T fr)) : ∀ j u, cs[j]? = some u → ∃ ad, some (⟨b, 0, none⟩ : Addr) = some ad ∧ w.cell? (ad.add j) = some u := fun j u hu => ⟨_, rfl, by rw [Addr.add_lit, cell_at h]; simpa using hu⟩
theorem OR.keep {e : TypeId} {sz : Nat} {w0 : World} {S : List Nat} {w w' : World} {L : List Ent} {A : Option Addr} {n cap : Nat} {xs : List Value} (O : OR e sz w0 S w L A n cap xs) (f : Fr [] w w') : OR e sz w0 S w' L A n cap xs :=
  ⟨O.len, O.sh.keep f, O.own.imp id fun ⟨b, cur, h1, h2, h3, h4, h5, h6⟩ => ⟨b, cur, h1, h2, h3, h4, h5, h6.keep f⟩⟩
theorem OR.new {e : TypeId} {sz : Nat} {w0 : World} {S : List Nat} {w w' : World} {L : List Ent} {A : Option Addr} {n cap b : Nat} {o : Obj} {xs : List Value} (O : OR e sz w0 S w L A n cap xs) (f : Fr [] w w') (hb : w.heap.size ≤ b) (ho : w'.heap[b]? = some o) : OR e sz w0 S w' (⟨b, o, true⟩ :: L) A n cap xs :=
  ⟨O.len, O.sh.new f hb ho, O.own.imp id fun ⟨b', cur, h1, h2, h3, h4, h5, h6⟩ => ⟨b', cur, h1, h2, h3, h4, h5, (h6.new f hb ho).swap⟩⟩
/-- A block beside the own one has been written. -/
theorem OR.put {e : TypeId} {sz : Nat} {w0 : World} {S : List Nat} {w w' : World} {L L' : List Ent} {A : Option Addr} {n cap b : Nat} {o' : Obj} {xs : List Value} (O : OR e sz w0 S w L A n cap xs) [t : Turn L b o' L'] (f : Fr [b] w w') (ho : w'.heap[b]? = some o') : OR e sz w0 S w' L' A n cap xs :=
  ⟨O.len, O.sh.put f ho, O.own.imp id fun ⟨b', cur, h1, h2, h3, h4, h5, h6⟩ => ⟨b', cur, h1, h2, h3, h4, h5, h6.put f ho⟩⟩
theorem OR.drop {e : TypeId} {sz : Nat} {w0 : World} {S : List Nat} {w : World} {L : List Ent} {A : Option Addr} {n cap : Nat} {x : Ent} {xs : List Value} (O : OR e sz w0 S w (x :: L) A n cap xs) : OR e sz w0 S w L A n cap xs :=
  ⟨O.len, O.sh.drop, O.own.imp id fun ⟨b', cur, h1, h2, h3, h4, h5, h6⟩ => ⟨b', cur, h1, h2, h3, h4, h5, h6.swap.drop⟩⟩
theorem OR.cells {e : TypeId} {sz : Nat} {w0 : World} {S : List Nat} {w : World} {L : List Ent} {A : Option Addr} {n cap : Nat} {xs : List Value} (O : OR e sz w0 S w L A n cap xs) : ∀ j u, xs[j]? = some u → ∃ ad, A = some ad ∧ w.cell? (ad.add j) = some u := by
  intro j u hu
  rcases O.own with ⟨rfl, rfl, rfl⟩ | ⟨b, cur, rfl, h2, h3, h4, h5, h6⟩
  · have := O.len
    simp at this
    subst this
    simp at hu
  · refine ⟨_, rfl, ?_⟩
    rw [Addr.add_lit, cell_at h6.look]
    rw [← h5, List.getElem?_take] at hu
    split at hu
    · simpa using hu
    · cases hu
theorem OR.rb {e : TypeId} {w0 : World} {S : List Nat} {w : World} {L : List Ent} {A : Option Addr} {n cap : Nat} {bs : List UInt8} (O : OR e 1 w0 S w L A n cap (Bs bs)) : RB w A n bs := by
  have hl := O.len
  simp only [Bs_length, Nat.mul_one] at hl
  exact ⟨hl, fun i hi => O.cells i _ (Bs_get (by omega))⟩
theorem OR.blk {e : TypeId} {sz : Nat} {w0 : World} {S : List Nat} {w : World} {L : List Ent} {ad : Addr} {n cap : Nat} {xs : List Value} (O : OR e sz w0 S w L (some ad) n cap xs) : ∃ (b : Nat) (cur : List Value), ad = ⟨b, 0, none⟩ ∧ n ≤ cap ∧ cap ≤ maxLen ∧ cur.length = cap * sz ∧ cur.take (n * sz) = xs ∧ SH w0 S w (⟨b, .cells cur.toArray e (0, 0), true⟩ :: L) := by
  rcases O.own with ⟨h, _⟩ | ⟨b, cur, h, k⟩
  · cases h
  · exact ⟨b, cur, Option.some.inj h, k⟩
theorem OR.cap_ge {e : TypeId} {sz : Nat} {w0 : World} {S : List Nat} {w : World} {L : List Ent} {A : Option Addr} {n cap : Nat} {xs : List Value} (O : OR e sz w0 S w L A n cap xs) : n ≤ cap ∧ cap ≤ maxLen := by
  rcases O.own with ⟨_, rfl, rfl⟩ | ⟨_, _, _, h1, h2, _⟩
  · exact ⟨Nat.le_refl _, by decide⟩
  · exact ⟨h1, h2⟩
/-- In this row, of elements of one cell each, all cells are one-cell values. -/
theorem run_append_OR' {P : Program} {t ty e : TypeId} {zs : List Value} {by_ : Nat} (ht : P.underlying t = some (.slice e)) (hi : rowInfo P e = some (zs, by_)) {w0 : World} {S : List Nat} {w : World} {L : List Ent} {A X : Option Addr} {n cap m c : Nat} {xs news : List Value}
    (O : OR e zs.length w0 S w L A n cap xs) (hl : news.length = m * zs.length) (hnews : ∀ j u, news[j]? = some u → ∃ ad, X = some ad ∧ w.cell? (ad.add j) = some u) (h1 : ∀ u ∈ news, u.oneCell' = true) (hm0 : X = none → m = 0)
    (hb : (n + m) * by_ ≤ 140737488355328) (hmax : n + m ≤ maxLen) :
    ∃ A' cap' w', (Builtin.append_ #[t, t] ty #[.slice A n cap, .slice X m c]).run P w = .ok (.slice A' (n + m) cap') w' ∧ OR e zs.length w0 S w' L A' (n + m) cap' (xs ++ news) ∧ (A.isSome = true → A'.isSome = true) := by
  obtain ⟨i, z, hinf, hz, hzc, hsz, hby, hpos⟩ := rowInfo_some hi
  rcases Nat.eq_zero_or_pos m with rfl | hmp
  · have hnil : news = [] := List.eq_nil_of_length_eq_zero (by simpa using hl)
    subst hnil
    refine ⟨A, cap, w, ?_, by simpa using O, id⟩
    have hge := O.cap_ge.1
    have hfc : (Builtin.firstCells i.size 0 (.slice X 0 c)).run P w = .ok #[] w := by
      cases X with
      | none => exact run_firstCells_none w _ _ _ _
      | some ad => exact run_firstCells_some w i.size 0 ad 0 c [] (by simp) (by simp)
    have hfc' : (Builtin.firstCells i.size 0 (.slice X 0 c)).run P w = .ok #[] w := hfc
    cases A <;> simp [Builtin.append_, run_underlying ht, sizeOf, typeInfo, hinf, Builtin.lenOf, hge, hfc, storeCells]
  · obtain ⟨ad, rfl⟩ : ∃ ad, X = some ad := by
      cases X with
      | none => have := hm0 rfl; omega
      | some ad => exact ⟨ad, rfl⟩
    have hnews' : ∀ j u, news[j]? = some u → w.cell? (ad.add j) = some u := fun j u hu => by
      obtain ⟨ad', e', h⟩ := hnews j u hu
      obtain rfl := Option.some.inj e'
      exact h
    have fresh : ∀ old, old < n + m → OR e zs.length w0 S (w.drew.alloc (.cells (xs.toArray ++ news.toArray ++ Builtin.zeroCells z.cells (grownCap w (n + m) old e - (n + m))) e)) L (some ⟨w.heap.size, 0, none⟩) (n + m) (grownCap w (n + m) old e) (xs ++ news) := by
      intro old ho
      have hge := grownCap_ge w (n + m) old e
      have hcm : grownCap w (n + m) old e ≤ maxLen := grownCap_le_maxLen w (n + m) old e hmax
      have hf : Fr [] w (w.drew.alloc (.cells (xs.toArray ++ news.toArray ++ Builtin.zeroCells z.cells (grownCap w (n + m) old e - (n + m))) e)) := (Fr.drew [] w).trans (Fr.alloc w.drew _)
      have hlen : (xs ++ news).length = (n + m) * zs.length := by rw [List.length_append, O.len, hl, Nat.add_mul]
      have hnew := O.sh.new (o := .cells (xs.toArray ++ news.toArray ++ Builtin.zeroCells z.cells (grownCap w (n + m) old e - (n + m))) e) hf (Nat.le_refl _) (heap_alloc_new w.drew _)
      refine ⟨hlen, hnew.drop, .inr ⟨w.heap.size, (xs ++ news ++ (Builtin.zeroCells z.cells (grownCap w (n + m) old e - (n + m))).toList), rfl, hge, hcm, ?_, ?_, ?_⟩⟩
      · have e0 : z.cells.size = zs.length := by rw [hzc, List.size_toArray]
        have e1 : (Builtin.zeroCells z.cells (grownCap w (n + m) old e - (n + m))).toList.length = (grownCap w (n + m) old e - (n + m)) * zs.length := by rw [Array.length_toList, size_zeroCells, e0]
        rw [List.length_append, hlen, e1, ← Nat.add_mul]
        congr 1; omega
      · rw [← hlen]; exact List.take_left
      · have e1 : (xs ++ news ++ (Builtin.zeroCells z.cells (grownCap w (n + m) old e - (n + m))).toList).toArray = xs.toArray ++ news.toArray ++ Builtin.zeroCells z.cells (grownCap w (n + m) old e - (n + m)) := by
          apply Array.ext'; simp
        rw [e1]; exact hnew
    have hmax' := hmax
    unfold maxLen at hmax'
    rcases O.own with ⟨rfl, rfl, rfl⟩ | ⟨b, cur, rfl, hnc, hcm, hcl, htake, Ho⟩
    · have hx : xs = [] := List.eq_nil_of_length_eq_zero (by simpa using O.len)
      subst hx
      have hr := run_append_nil (P := P) w t ty e i z ht hinf hz ad m c news (by rw [hl, hsz]) hnews' hmp (by omega) (by rw [hby]; simp only [Nat.zero_add] at hb; omega)
      have hgr := fresh 0 (by omega)
      simp only [Nat.zero_add, List.nil_append, Array.empty_append] at hgr ⊢
      exact ⟨_, _, _, hr, hgr, fun _ => rfl⟩
    · by_cases hroom : n + m ≤ cap
      · have hcell := Ho.look (b := b)
        have hfit : n * i.size + news.length ≤ cur.toArray.size := by rw [hl, hsz, List.size_toArray, hcl, ← Nat.add_mul]; exact Nat.mul_le_mul_right _ hroom
        have hr := run_append_room (P := P) w t ty e i ht hinf b n cap cur.toArray hcell ad m c news (by rw [hl, hsz]) hnews' h1 hroom hfit
        have hrow := setRow_heap w b cur.toArray (cur.take (n * i.size) ++ news ++ cur.drop (n * i.size + news.length)).toArray e (0, 0) hcell
        have hfr : Fr [b] w (w.setRow b (cur.take (n * i.size) ++ news ++ cur.drop (n * i.size + news.length)).toArray) :=
          ⟨rfl, rfl, rfl, by simp, fun k _ hk => setRow_other w b k _ (fun e => hk (by simp [e]))⟩
        have Hn := Ho.put hfr hrow
        have hlen : (xs ++ news).length = (n + m) * zs.length := by rw [List.length_append, O.len, hl, Nat.add_mul]
        refine ⟨_, _, _, hr, ⟨hlen, Hn.drop, .inr ⟨b, _, rfl, hroom, hcm, ?_, ?_, Hn⟩⟩, id⟩
        · have := hfit
          rw [List.size_toArray] at this
          simp only [List.length_append, List.length_take, List.length_drop]; omega
        · rw [hsz, htake, ← hlen]; exact List.take_left
      · have holds : ∀ j u, xs[j]? = some u → w.cell? ((⟨b, 0, none⟩ : Addr).add j) = some u := fun j u hu => by
          obtain ⟨ad', e', h⟩ := O.cells j u hu
          obtain rfl := Option.some.inj e'
          exact h
        have hr := run_append_grow (P := P) w t ty e i z ht hinf hz ⟨b, 0, none⟩ n cap xs (by rw [O.len, hsz]) holds ad m c news (by rw [hl, hsz]) hnews' (by omega) (by omega) (by rw [hby]; exact growslice_fits (by omega) hb)
        exact ⟨_, _, _, hr, fresh cap (by omega), fun _ => rfl⟩
theorem run_append_OR {P : Program} {t ty e : TypeId} {zs : List Value} {by_ : Nat} (ht : P.underlying t = some (.slice e)) (hi : rowInfo P e = some (zs, by_)) {w0 : World} {S : List Nat} {w : World} {L : List Ent} {A X : Option Addr} {n cap m c : Nat} {xs news : List Value}
    (O : OR e zs.length w0 S w L A n cap xs) (hl : news.length = m * zs.length) (hnews : ∀ j u, news[j]? = some u → ∃ ad, X = some ad ∧ w.cell? (ad.add j) = some u) (h1 : ∀ u ∈ news, u.oneCell' = true) (hm0 : X = none → m = 0)
    (hb : (n + m) * by_ ≤ 140737488355328) (hmax : n + m ≤ maxLen) :
    ∃ A' cap' w', (Builtin.append_ #[t, t] ty #[.slice A n cap, .slice X m c]).run P w = .ok (.slice A' (n + m) cap') w' ∧ OR e zs.length w0 S w' L A' (n + m) cap' (xs ++ news) := by
  obtain ⟨A', cap', w', h1, h2, _⟩ := run_append_OR' (ty := ty) (c := c) ht hi O hl hnews h1 hm0 hb hmax
  exact ⟨A', cap', w', h1, h2⟩
section steps
variable {P : Program} {n : Nat} {ops : Array Oper} {Q : Post} {rest : List Oper} {ρ : Env} {w : World} {ty : TypeId} {pos : String} {af : Array Edge} {d : Nat}
theorem apO {t e : TypeId} {zs : List Value} {by_ : Nat} {w0 : World} {S : List Nat} {L : List Ent} {A X : Option Addr} {k cap m c : Nat} {xs : List Value} {s x : Operand} (news : List Value)
    (O : OR e zs.length w0 S w L A k cap xs) (hs : ev ρ s = .slice A k cap) (hx : ev ρ x = .slice X m c) (hu : P.underlying t = some (.slice e)) (hi : rowInfo P e = some (zs, by_)) (hl : news.length = m * zs.length) (hnews : ∀ j u, news[j]? = some u → ∃ ad, X = some ad ∧ w.cell? (ad.add j) = some u) (h1 : ∀ u ∈ news, u.oneCell' = true) (hm0 : X = none → m = 0)
    (hb : (k + m) * by_ ≤ 140737488355328) (hmax : k + m ≤ maxLen) (hn : Nat.blt d n = true)
    (kk : ∀ A' cap' w', OR e zs.length w0 S w' L A' (k + m) cap' (xs ++ news) → wl P n ops Q rest (upd ρ d (.slice A' (k + m) cap')) w') : wl P n ops Q (⟨some d, .call { callee := .builtin .append, args := #[s, x], argTypes := #[t, t] }, ty, pos, af, none⟩ :: rest) ρ w := by
  obtain ⟨A', cap', w', hr, O'⟩ := run_append_OR (P := P) (ty := ty) (c := c) hu hi O hl hnews h1 hm0 hb hmax
  exact val rfl rfl hn (by simp [execOp, resolve, invoke, builtin, hs, hx, hr]) (kk A' cap' w' O')
theorem apS {t e : TypeId} {zs : List Value} {by_ : Nat} {w0 : World} {S : List Nat} {L : List Ent} {a : Addr} {X : Option Addr} {k cap m c : Nat} {xs : List Value} {s x : Operand} (news : List Value)
    (O : OR e zs.length w0 S w L (some a) k cap xs) (hs : ev ρ s = .slice (some a) k cap) (hx : ev ρ x = .slice X m c) (hu : P.underlying t = some (.slice e)) (hi : rowInfo P e = some (zs, by_)) (hl : news.length = m * zs.length) (hnews : ∀ j u, news[j]? = some u → ∃ ad, X = some ad ∧ w.cell? (ad.add j) = some u) (h1 : ∀ u ∈ news, u.oneCell' = true) (hm0 : X = none → m = 0)
    (hb : (k + m) * by_ ≤ 140737488355328) (hmax : k + m ≤ maxLen) (hn : Nat.blt d n = true)
    (kk : ∀ a' cap' w', OR e zs.length w0 S w' L (some a') (k + m) cap' (xs ++ news) → wl P n ops Q rest (upd ρ d (.slice (some a') (k + m) cap')) w') : wl P n ops Q (⟨some d, .call { callee := .builtin .append, args := #[s, x], argTypes := #[t, t] }, ty, pos, af, none⟩ :: rest) ρ w := by
  obtain ⟨A', cap', w', hr, O', hA⟩ := run_append_OR' (P := P) (ty := ty) (c := c) hu hi O hl hnews h1 hm0 hb hmax
  obtain ⟨a', rfl⟩ := Option.isSome_iff_exists.1 (hA rfl)
  exact val rfl rfl hn (by simp [execOp, resolve, invoke, builtin, hs, hx, hr]) (kk a' cap' w' O')
theorem apB {t e : TypeId} {w0 : World} {S : List Nat} {L : List Ent} {A X : Option Addr} {k cap m c : Nat} {xs bs : List UInt8} {s x : Operand}
    (O : OR e 1 w0 S w L A k cap (Bs xs)) (hs : ev ρ s = .slice A k cap) (hx : ev ρ x = .slice X m c) (hR : RB w X m bs) (hu : P.underlying t = some (.slice e)) (hi : rowInfo P e = some ([.int .u8 0], 1)) (hb : k + m ≤ 140737488355328) (hn : Nat.blt d n = true)
    (kk : ∀ A' cap' w', OR e 1 w0 S w' L A' (k + m) cap' (Bs (xs ++ bs)) → wl P n ops Q rest (upd ρ d (.slice A' (k + m) cap')) w') : wl P n ops Q (⟨some d, .call { callee := .builtin .append, args := #[s, x], argTypes := #[t, t] }, ty, pos, af, none⟩ :: rest) ρ w := by
  refine apO (zs := [.int .u8 0]) (Bs bs) O hs hx hu hi (by simp [hR.1]) (fun j u hu => ?_) (fun u hu => ?_) (fun h0 => ?_) (by omega) (by unfold maxLen; omega) hn (fun A' cap' w' O' => kk A' cap' w' ?_)
  · have hj : j < bs.length := by simpa using (List.getElem?_eq_some_iff.1 hu).1
    rw [Bs_get hj] at hu
    obtain rfl := Option.some.inj hu
    exact hR.2 j (by rw [← hR.1]; exact hj)
  · simp only [Bs, List.mem_map] at hu
    obtain ⟨b, _, rfl⟩ := hu
    rfl
  · rcases Nat.eq_zero_or_pos m with h | h
    · exact h
    · obtain ⟨_, e', _⟩ := hR.2 0 h
      rw [h0] at e'; cases e'
  · have : Bs (xs ++ bs) = Bs xs ++ Bs bs := by simp [Bs]
    rw [this]; exact O'
end steps
end Go.Proofs.YtgmkjndmjnbahaaDoor.X
