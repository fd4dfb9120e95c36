/- The laws of single operations: closures, type assertions. -/
import Derived.Test.YtgmkjndmjnbahaaDoorSteps6
namespace Go.Proofs.YtgmkjndmjnbahaaDoor.X
set_option linter.unusedVariables false
open Go Go.RowKit
theorem res5 {P : Program} {fn : Func} {t u s r q : Tmp} (h : fn.results = #[.tmp t, .tmp u, .tmp s, .tmp r, .tmp q]) (a : Act) : (results fn a.tmps).run P = fun w => .ok ((fun ρ => .tuple #[ρ t, ρ u, ρ s, ρ r, ρ q]) (envOf a)) w := by
  funext w; simp [results, h, envOf]
theorem SH.ne_of {w0 w : World} {S : List Nat} {L : List Ent} {x : Ent} (H : SH w0 S w (x :: L)) (hx : x.m = true) {y : Ent} (hy : y ∈ L) : x.b ≠ y.b := by
  obtain ⟨_, _, a, _⟩ := H
  exact (List.pairwise_cons.1 a).1 y hy (by simp [hx])
/-- A new block of a list is new, though another may be written. -/
theorem SH.ge1 {w0 w : World} {q : Nat} {L : List Ent} {x : Ent} (H : SH w0 [q] w (x :: L)) (hx : x.m = true) {y : Ent} (hy : y ∈ L) (hq : y.b = q) : w0.heap.size ≤ x.b := by
  obtain ⟨f, g, a, m⟩ := H
  have h1 := (List.pairwise_cons.1 a).1 y hy (by simp [hx])
  exact (m x (.head _) hx).resolve_left (by simp; exact hq ▸ h1)
/-- One block is written, and all are older than what the writing has made. -/
theorem SH.put2 {w0 w w' : World} {S : List Nat} {L L' : List Ent} {b : Nat} {o' : Obj} (h : SH w0 S w L) [t : Turn L b o' L'] (f : Fr [b] w w') (ho : w'.heap[b]? = some o') : SH w0 S w' L' ∧ (∀ y ∈ L', y.b < w.heap.size) ∧ w0.heap.size ≤ w.heap.size := by
  refine ⟨h.put f ho, ?_, h.size⟩
  obtain ⟨l, r, o, rfl, rfl⟩ := t.at'
  intro y hy
  rcases List.mem_append.1 hy with hy | hy
  · exact lt_of_at (h.get y (by simp [hy]))
  · rcases List.mem_cons.1 hy with rfl | hy
    · exact lt_of_at (h.get ⟨b, o, true⟩ (by simp))
    · exact lt_of_at (h.get y (by simp [hy]))
theorem SH.lts {w0 w : World} {S : List Nat} {L : List Ent} (h : SH w0 S w L) : (∀ y ∈ L, y.b < w.heap.size) ∧ w0.heap.size ≤ w.heap.size := ⟨fun y hy => lt_of_at (h.get y hy), h.size⟩
/-- A block that a call has made joins the list. -/
theorem SH.add {w0 w' : World} {S : List Nat} {L : List Ent} {n p : Nat} {o : Obj} (h : SH w0 S w' L) (hl : (∀ y ∈ L, y.b < n) ∧ w0.heap.size ≤ n) (hp : n ≤ p) (ho : w'.heap[p]? = some o) : SH w0 S w' (⟨p, o, true⟩ :: L) := by
  refine ⟨h.fr, ?_, ?_, ?_⟩
  · intro x hx
    rcases List.mem_cons.1 hx with rfl | hx
    · exact ho
    · exact h.get x hx
  · refine List.Pairwise.cons (fun y hy _ => ?_) h.ap
    have := hl.1 y hy
    simp only
    omega
  · intro x hx hm
    rcases List.mem_cons.1 hx with rfl | hx
    · exact .inr (Nat.le_trans hl.2 hp)
    · exact h.mu x hx hm
/-- What a call gives back that may fail. -/
theorem two_res {t : TypeId} {v : Value} {G : Bool} {X : Nat → Prop} (h : (G = true ∧ ∃ p, v = .tuple #[.pointer (some ⟨p, 0, none⟩), .nilIface] ∧ X p) ∨ (G = false ∧ ∃ e, v = .tuple #[.pointer none, .iface t e])) :
    ∃ A e, v = .tuple #[.pointer A, e] ∧ Ifc e ∧ isIf e = !G ∧ (G = true → ∃ p, A = some ⟨p, 0, none⟩ ∧ X p) := by
  rcases h with ⟨hg, p, rfl, hx⟩ | ⟨hg, e, rfl⟩
  · exact ⟨_, _, rfl, .inl rfl, by rw [hg]; rfl, fun _ => ⟨p, rfl, hx⟩⟩
  · exact ⟨_, _, rfl, .inr ⟨_, _, rfl⟩, by rw [hg]; rfl, fun h => by rw [hg] at h; cases h⟩
section steps
variable {P : Program} {n : Nat} {ops : Array Oper} {Q : Post} {rest : List Oper} {ρ : Env} {w : World} {ty : TypeId} {pos : String} {af : Array Edge} {d : Nat}
theorem r_eqlIG {t u : TypeId} {ms : Array (String × TypeId)} {x : Operand} {e : Value} {dd : Option Nat} {gg : Option (Nat × Bool)} (hx : ev ρ x = e) (hu : P.underlying t = some (.interface ms)) (he : Ifc e) : (execOp (ev ρ) ⟨dd, .binOp .eql t x (.const .nilIface) u, ty, pos, af, gg⟩).run P w = .ok (.value (.bool (!isIf e))) w := by
  rcases he with rfl | ⟨s, v, rfl⟩
  · exact r_eqlI0 hx hu
  · exact r_eqlI1 hx hu
theorem r_neqIG {t u : TypeId} {ms : Array (String × TypeId)} {x : Operand} {e : Value} {dd : Option Nat} {gg : Option (Nat × Bool)} (hx : ev ρ x = e) (hu : P.underlying t = some (.interface ms)) (he : Ifc e) : (execOp (ev ρ) ⟨dd, .binOp .neq t x (.const .nilIface) u, ty, pos, af, gg⟩).run P w = .ok (.value (.bool (isIf e))) w := by
  rcases he with rfl | ⟨s, v, rfl⟩
  · exact r_neqI0 hx hu
  · exact r_neqI1 hx hu
theorem r_iBN {t e : TypeId} {x i : Operand} {ad : Addr} {len cap sz : Nat} {j : IntKind} {z : Int} {dd : Option Nat} {gg : Option (Nat × Bool)} (ad' : Addr) (hx : ev ρ x = .slice (some ad) len cap) (hi : ev ρ i = .int j z) (hu : P.underlying t = some (.slice e)) (hs : sizeB P e sz = true) (hz : 0 ≤ z ∧ z < len) (ho : ad.add (z.toNat * sz) = ad') : (execOp (ev ρ) ⟨dd, .indexAddr t x i, ty, pos, af, gg⟩).run P w = .ok (.value (.pointer (some ad'))) w := by
  rw [← ho]; exact r_iB hx hi hu hs hz
theorem mkf {fn : Fn} {cs : List Operand} (vs : List Value) (hv : cs.map (ev ρ) = vs) (hn : Nat.blt d n = true) (k : wl P n ops Q rest (upd ρ d (.func fn #[] vs.toArray)) w) : wl P n ops Q (⟨some d, .makeFunc fn #[] cs.toArray, ty, pos, af, none⟩ :: rest) ρ w :=
  val rfl rfl hn (by subst hv; simp [execOp, Instr.makeFunc]) k
theorem run_calld {f : FuncId} {x : Operand} {xs : List Operand} {ts : Array TypeId} {dd : Option Nat} {cs : List Value} (hx : ev ρ x = .func (.func f) #[] cs.toArray) (hf : callable P f = true) :
    (execOp (ev ρ) ⟨dd, .call { callee := .value x, args := xs.toArray, argTypes := ts }, ty, pos, af, none⟩).run P w = .ok (.enter f (xs.map (ev ρ) ++ cs).toArray) w := by
  simp [execOp, resolve, Deferred.ofValue, hx, invoke, run_callFunc hf]
/-- A closure that is called. -/
theorem cld {f : FuncId} {x : Operand} {xs : List Operand} {ts : Array TypeId} {cs : List Value} {φ : Value → World → Prop} (hx : ev ρ x = .func (.func f) #[] cs.toArray) (hf : callable P f = true) (hc : Calls P f (xs.map (ev ρ) ++ cs).toArray w (Ret φ)) (hn : Nat.blt d n = true)
    (k : ∀ v w', φ v w' → wl P n ops Q rest (upd ρ d v) w') : wl P n ops Q (⟨some d, .call { callee := .value x, args := xs.toArray, argTypes := ts }, ty, pos, af, none⟩ :: rest) ρ w :=
  enterC rfl rfl hn (run_calld hx hf) hc k
theorem cld0 {f : FuncId} {x : Operand} {xs : List Operand} {ts : Array TypeId} {cs : List Value} {φ : Value → World → Prop} (hx : ev ρ x = .func (.func f) #[] cs.toArray) (hf : callable P f = true) (hc : Calls P f (xs.map (ev ρ) ++ cs).toArray w (Ret φ))
    (k : ∀ v w', φ v w' → wl P n ops Q rest ρ w') : wl P n ops Q (⟨none, .call { callee := .value x, args := xs.toArray, argTypes := ts }, ty, pos, af, none⟩ :: rest) ρ w :=
  enterC0 rfl rfl (run_calld hx hf) hc k
/-- An assertion to a pointer's type, with its answer. -/
theorem taP {x : Operand} {xt at_ s e : TypeId} {v : Value} (hx : ev ρ x = .iface s v) (hu : P.underlying at_ = some (.pointer e)) (h : s = at_) (hn : Nat.blt d n = true) (k : wl P n ops Q rest (upd ρ d (.tuple #[v, .bool true])) w) : wl P n ops Q (⟨some d, .typeAssert x xt at_ true, ty, pos, af, none⟩ :: rest) ρ w :=
  val rfl rfl hn (by subst h; simp [execOp, hx, Instr.typeAssert, run_underlying hu]) k
theorem taN {x : Operand} {xt at_ s e : TypeId} {v : Value} (hx : ev ρ x = .iface s v) (hu : P.underlying at_ = some (.pointer e)) (h : ¬ s = at_) (hz : (P.info? at_).bind (·.zero) = some (.pointer none)) (hn : Nat.blt d n = true) (k : wl P n ops Q rest (upd ρ d (.tuple #[.pointer none, .bool false])) w) : wl P n ops Q (⟨some d, .typeAssert x xt at_ true, ty, pos, af, none⟩ :: rest) ρ w :=
  val rfl rfl hn (by simp [execOp, hx, Instr.typeAssert, run_underlying hu, h, run_zeroValue hz]) k
theorem yielded_U (a : Act) (j : Nat) (b : Bool) (h : (yieldedE ops (envOf a) j == some b) = false) : (yielded ops a.tmps j == some b) = false := by
  by_cases hy : yielded ops a.tmps j = some b
  · exfalso
    have : yieldedE ops (envOf a) j = some b := by
      unfold yielded at hy
      unfold yieldedE
      cases hd : (ops[j]?).bind (·.dst) with
      | none => simp [hd] at hy
      | some d =>
        simp only [hd, Option.bind_some] at hy
        simp only [envOf, Array.getD_eq_getD_getElem?]
        cases hq : a.tmps[d]? with
        | none => simp [hq] at hy
        | some v =>
          rw [hq] at hy
          simp only [Option.getD_some]
          cases v <;> simp_all
    rw [this] at h; simp at h
  · simp [hy]
/-- An operation whose guard was itself passed over. -/
theorem gnU {op : Op} {ty : TypeId} {pos : String} {af : Array Edge} {d j : Nat} {b : Bool} (h : (yieldedE ops ρ j == some b) = false) (hn : Nat.blt d n = true)
    (k : wl P n ops Q rest (upd ρ d undef) w) : wl P n ops Q (⟨some d, op, ty, pos, af, some (j, b)⟩ :: rest) ρ w := by
  intro a h1 h2 he
  have hy := yielded_U a j b (he ▸ h)
  have hlt : d < n := by simpa [Nat.blt_eq] using hn
  simp only [wpList, Region.wanted, hy]
  rw [if_neg (by simp)]
  exact k _ (by rw [defers_put, h1]) (by rw [size_put, h2]) (by rw [envOf_put _ _ _ (by omega), he])
theorem tknU {i d j m : Nat} {b : Bool} {op : Op} {ty : TypeId} {pos : String} {af : Array Edge} {S : World → Prop} {B : List Nat} {listed listed' : Array Bool} (hi : ops[i]? = some ⟨some d, op, ty, pos, af, some (j, b)⟩)
    (hc : (Region.noSelect ops && Region.free .any ops listed i && (Region.ready .any ops listed).contains i && waits ops B i && !memb i B && Nat.blt d n) = true) (hl : listed.setIfInBounds i true = listed')
    (hS : S w) (hy : (yieldedE ops ρ j == some b) = false) (k : wa P n ops Q S B m listed' (upd ρ d undef) w) : wa P n ops Q S B (m + 1) listed ρ w := by
  intro a h1 h2 he
  simp only [Bool.and_eq_true, Bool.not_eq_true', Nat.blt_eq] at hc
  obtain ⟨⟨⟨⟨⟨c1, c2⟩, c3⟩, c4⟩, c5⟩, c6⟩ := hc
  have hy' := yielded_U a j b (he ▸ hy)
  refine anyB_first hi c1 c4 c5 (fun c a w h => h.2.2.elim) m listed a w (Region.free_spec hi c2) (by simpa using c3) (.inr ⟨by simp [Region.wanted, hy'], rfl⟩) hS ?_
  rw [hl]
  exact k _ (by rw [defers_put, h1]) (by rw [size_put, h2]) (by rw [envOf_put _ _ _ (by omega), he])
end steps
end Go.Proofs.YtgmkjndmjnbahaaDoor.X
