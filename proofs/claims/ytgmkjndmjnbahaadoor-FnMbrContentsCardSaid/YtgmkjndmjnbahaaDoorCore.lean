/- The engine of this claim's walks: weakest preconditions over environments (functions from slots to values), and symbolic heaps. It proves nothing about the program by itself. -/
import Derived.WalkKit
import Derived.Laws.MakeOwn
import Derived.Laws.IdiomCopy
import Derived.Laws.BytesArg
import Derived.Lib.ConvBytes
namespace Go.Proofs.YtgmkjndmjnbahaaDoor.X
open Go

/-! ### 1. Environments, posts, code -/
abbrev Env := Nat → Value
def upd (ρ : Env) (d : Nat) (v : Value) : Env := fun t => cond (Nat.beq t d) v (ρ t)
def ev (ρ : Env) : Operand → Value
  | .tmp t => ρ t
  | .const v => v
  | .global g => .pointer (some ⟨g, 0, none⟩)
  | .func f => .func (.func f) #[] #[]
def memb (t : Nat) : List Nat → Bool
  | [] => false
  | s :: r => cond (Nat.beq t s) true (memb t r)
/-- Outside S as ρ0. -/
def mask (ρ0 ρx : Env) (S : List Nat) : Env := fun t => cond (memb t S) (ρx t) (ρ0 t)
def setL (ρ : Env) : List (Nat × Value) → Env
  | [] => ρ
  | (d, v) :: r => upd (setL ρ r) d v
def FitsL (ρ : Env) : List (Nat × Value) → Prop
  | [] => True
  | (d, v) :: r => ρ d = v ∧ FitsL ρ r
def Agree (S : List Nat) (ρ0 ρ : Env) : Prop := ∀ t, memb t S = false → ρ t = ρ0 t
theorem upd_self {ρ : Env} {d : Nat} {v : Value} (h : ρ d = v) : upd ρ d v = ρ := by
  funext t
  unfold upd
  cases hb : Nat.beq t d with
  | false => rfl
  | true => rw [cond_true, Nat.eq_of_beq_eq_true hb, h]
theorem fN (ρ : Env) : FitsL ρ [] := trivial
theorem fC {ρ : Env} {d : Nat} {v : Value} {r : List (Nat × Value)} (h : ρ d = v) (k : FitsL ρ r) : FitsL ρ ((d, v) :: r) := ⟨h, k⟩
theorem Agree.mask {S : List Nat} {ρ0 ρx : Env} : Agree S ρ0 (mask ρ0 ρx S) := fun t ht => by unfold X.mask; rw [ht]; rfl
theorem memb_of_beq {t d : Nat} {S : List Nat} (hd : memb d S = true) (ht : memb t S = false) : Nat.beq t d = false := by
  cases hb : Nat.beq t d with
  | false => rfl
  | true => rw [Nat.eq_of_beq_eq_true hb] at ht; rw [ht] at hd; cases hd
theorem Agree.upd {S : List Nat} {ρ0 ρ : Env} {d : Nat} {v : Value} (hd : memb d S = true) (h : Agree S ρ0 ρ) : Agree S ρ0 (X.upd ρ d v) := fun t ht => by
  unfold X.upd
  rw [memb_of_beq hd ht]; exact h t ht
theorem Agree.setL {S : List Nat} {ρ0 ρ : Env} : ∀ {l : List (Nat × Value)}, (l.all fun p => memb p.1 S) = true → Agree S ρ0 ρ → Agree S ρ0 (X.setL ρ l)
  | [], _, h => h
  | (d, v) :: r, hl, h => by
    simp only [List.all_cons, Bool.and_eq_true] at hl
    exact Agree.upd hl.1 (Agree.setL hl.2 h)
theorem memb_all {t : Nat} {S : List Nat} : ∀ {S' : List Nat}, (S'.all fun t => memb t S) = true → memb t S = false → memb t S' = false
  | [], _, _ => rfl
  | s :: r, h, ht => by
    simp only [List.all_cons, Bool.and_eq_true] at h
    simp only [memb]
    rw [memb_of_beq h.1 ht, cond_false]
    exact memb_all h.2 ht
theorem Agree.mask2 {S S' : List Nat} {ρ0 ρ ρx : Env} (hs : (S'.all fun t => memb t S) = true) (h : Agree S ρ0 ρ) : Agree S ρ0 (X.mask ρ ρx S') := fun t ht => by
  unfold X.mask
  rw [memb_all hs ht]; exact h t ht
theorem fits_eq {S : List Nat} {ρ0 ρ : Env} : ∀ {l : List (Nat × Value)}, FitsL ρ l → Agree S ρ0 ρ → ρ = setL (mask ρ0 ρ S) l
  | [], _, h => by
    funext t
    simp only [setL, mask]
    cases ht : memb t S with
    | true => rfl
    | false => exact h t ht
  | (d, v) :: r, hf, h => by
    have ih := fits_eq (l := r) hf.2 h
    simp only [setL]
    rw [← ih, upd_self hf.1]
def envOf (a : Act) : Env := fun t => a.tmps.getD t undef
theorem eval_envOf (a : Act) : a.eval = ev (envOf a) := by
  funext x; cases x <;> rfl
abbrev Post := Exit → Env → World → Prop
def lift (n : Nat) (Q : Post) : Exit → Act → World → Prop := fun e a w => a.defers = [] ∧ a.tmps.size = n ∧ Q e (envOf a) w
def cw (P : Program) (n : Nat) (c : Code) (Q : Post) (ρ : Env) (w : World) : Prop :=
  ∀ a : Act, a.defers = [] → a.tmps.size = n → envOf a = ρ → c.wp P (lift n Q) a w
def wl (P : Program) (n : Nat) (ops : Array Oper) (Q : Post) (l : List Oper) (ρ : Env) (w : World) : Prop :=
  ∀ a : Act, a.defers = [] → a.tmps.size = n → envOf a = ρ → wpList P ops (lift n Q) l a w

def thenQ (next : Env → World → Prop) (Q : Post) : Post
  | .normal, ρ, w => next ρ w
  | e, ρ, w => Q e ρ w
def inQ (id : Nat) (Q : Post) : Post
  | .exit i, ρ, w => cond (Nat.beq i id) (Q .normal ρ w) (Q (.exit i) ρ w)
  | e, ρ, w => Q e ρ w
def loopQ (I : Env → World → Prop) (Q : Post) : Post
  | .normal, ρ, w => I ρ w
  | e, ρ, w => Q e ρ w

section posts
variable {Q : Post} {next : Env → World → Prop} {ρ : Env} {w : World} {id i : Nat}
theorem then_n (h : next ρ w) : thenQ next Q .normal ρ w := h
theorem then_e (h : Q (.exit i) ρ w) : thenQ next Q (.exit i) ρ w := h
theorem then_r (h : Q .ret ρ w) : thenQ next Q .ret ρ w := h
theorem in_n (h : Q .normal ρ w) : inQ id Q .normal ρ w := h
theorem in_r (h : Q .ret ρ w) : inQ id Q .ret ρ w := h
theorem in_hit (hb : Nat.beq i id = true) (h : Q .normal ρ w) : inQ id Q (.exit i) ρ w := by simp only [inQ, hb]; exact h
theorem in_miss (hb : Nat.beq i id = false) (h : Q (.exit i) ρ w) : inQ id Q (.exit i) ρ w := by simp only [inQ, hb]; exact h
theorem loop_n (h : next ρ w) : loopQ next Q .normal ρ w := h
theorem loop_e (h : Q (.exit i) ρ w) : loopQ next Q (.exit i) ρ w := h
theorem loop_r (h : Q .ret ρ w) : loopQ next Q .ret ρ w := h
end posts

section codes
variable {P : Program} {n : Nat} {Q : Post} {ρ : Env} {w : World}
theorem sq {x y : Code} (h : cw P n x (thenQ (cw P n y Q) Q) ρ w) : cw P n (.seq x y) Q ρ w := by
  intro a hd hs he
  refine wp_seq (wp_mono (h a hd hs he) ?_)
  rintro e a w ⟨h1, h2, h3⟩
  cases e with
  | normal => exact h3 a h1 h2 rfl
  | _ => exact ⟨h1, h2, h3⟩
theorem sk (h : Q .normal ρ w) : cw P n .skip Q ρ w := by
  intro a hd hs he; exact wp_skip ⟨hd, hs, he ▸ h⟩
theorem ex {i : Nat} (h : Q (.exit i) ρ w) : cw P n (.exit i) Q ρ w := by
  intro a hd hs he; exact wp_exit ⟨hd, hs, he ▸ h⟩
theorem rt (h : Q .ret ρ w) : cw P n .ret Q ρ w := by
  intro a hd hs he; exact wp_ret ⟨hd, hs, he ▸ h⟩
theorem bk {i : Nat} {c : Code} (h : cw P n c (inQ i Q) ρ w) : cw P n (.block i c) Q ρ w := by
  intro a hd hs he
  refine wp_block (wp_mono (h a hd hs he) ?_)
  rintro e a w ⟨h1, h2, h3⟩
  cases e with
  | exit j =>
    simp only [inQ] at h3
    simp only [Exit.inBlock]
    by_cases hj : j = i
    · subst hj
      simp only [Nat.beq_refl, cond_true] at h3
      rw [if_pos rfl]; exact ⟨h1, h2, h3⟩
    · have : Nat.beq j i = false := by
        cases hb : Nat.beq j i with
        | false => rfl
        | true => exact absurd (Nat.eq_of_beq_eq_true hb) hj
      simp only [this, cond_false] at h3
      rw [if_neg hj]; exact ⟨h1, h2, h3⟩
  | _ => exact ⟨h1, h2, h3⟩
theorem cn {c : Operand} {x y : Code} {b : Bool} (hc : ev ρ c = .bool b) (ht : b = true → cw P n x Q ρ w) (hf : b = false → cw P n y Q ρ w) : cw P n (.cond c x y) Q ρ w := by
  intro a hd hs he
  refine wp_cond_split (t := b) (by rw [eval_envOf, he]; exact hc) (fun h => ht h a hd hs he) (fun h => hf h a hd hs he)
/-- A test whose answer is a decided proposition. -/
theorem cd {c : Operand} {x y : Code} {p : Prop} [Decidable p] (hc : ev ρ c = .bool (decide p)) (ht : p → cw P n x Q ρ w) (hf : ¬ p → cw P n y Q ρ w) : cw P n (.cond c x y) Q ρ w :=
  cn hc (fun h => ht (of_decide_eq_true h)) (fun h => hf (of_decide_eq_false h))
theorem cT {c : Operand} {x y : Code} {p : Prop} [Decidable p] (hc : ev ρ c = .bool (decide p)) (hp : p) (ht : cw P n x Q ρ w) : cw P n (.cond c x y) Q ρ w :=
  cd hc (fun _ => ht) (fun h => absurd hp h)
theorem cF {c : Operand} {x y : Code} {p : Prop} [Decidable p] (hc : ev ρ c = .bool (decide p)) (hp : ¬ p) (hf : cw P n y Q ρ w) : cw P n (.cond c x y) Q ρ w :=
  cd hc (fun h => absurd h hp) (fun _ => hf)
theorem cbT {c : Operand} {x y : Code} {b : Bool} (hc : ev ρ c = .bool b) (hb : b = true) (ht : cw P n x Q ρ w) : cw P n (.cond c x y) Q ρ w :=
  cn hc (fun _ => ht) (fun h => by rw [hb] at h; cases h)
theorem cbF {c : Operand} {x y : Code} {b : Bool} (hc : ev ρ c = .bool b) (hb : b = false) (hf : cw P n y Q ρ w) : cw P n (.cond c x y) Q ρ w :=
  cn hc (fun h => by rw [hb] at h; cases h) (fun _ => hf)
theorem least {p : Nat → Prop} (h : ∃ m, p m) : ∃ m, p m ∧ ∀ k, p k → m ≤ k := by
  obtain ⟨m, hm⟩ := h
  induction m using Nat.strongRecOn with
  | _ m ih =>
    by_cases hs : ∃ k, k < m ∧ p k
    · obtain ⟨k, hk, hp⟩ := hs
      exact ih k hk hp
    · exact ⟨m, hm, fun k hk => Nat.le_of_not_lt fun hlt => hs ⟨k, hlt, hk⟩⟩
open Classical in
noncomputable def leastOf (p : Nat → Prop) : Nat := if h : ∃ m, p m then Classical.choose (least h) else 0
theorem leastOf_spec {p : Nat → Prop} (h : ∃ m, p m) : p (leastOf p) ∧ ∀ k, p k → leastOf p ≤ k := by
  unfold leastOf
  rw [dif_pos h]
  exact Classical.choose_spec (least h)
/-- A loop: what holds at each round's head, and a measure. -/
theorem lp {c : Code} (I : Nat → Env → World → Prop) (m : Nat) (h0 : I m ρ w)
    (round : ∀ m ρ w, I m ρ w → cw P n c (loopQ (fun ρ' w' => ∃ m', m' < m ∧ I m' ρ' w') Q) ρ w) : cw P n (.loop c) Q ρ w := by
  intro a hd hs he
  have key : ∀ m : Nat, ∀ (a : Act) (w : World), a.defers = [] → a.tmps.size = n → I m (envOf a) w → (Code.loop c).wp P (lift n Q) a w := by
    intro m0 a0 w0 hd0 hs0 hI0
    refine wp_loop (fun a w => a.defers = [] ∧ a.tmps.size = n ∧ ∃ m, I m (envOf a) w) (fun a w => leastOf fun m => I m (envOf a) w) ⟨hd0, hs0, m0, hI0⟩ ?_
    rintro a w ⟨h1, h2, hex⟩
    have hI := (leastOf_spec hex).1
    refine wp_mono (round _ _ _ hI a h1 h2 rfl) ?_
    rintro e a' w' ⟨k1, k2, k3⟩
    cases e with
    | normal =>
      obtain ⟨m', hlt, hI'⟩ := k3
      exact ⟨⟨k1, k2, m', hI'⟩, Nat.lt_of_le_of_lt ((leastOf_spec (p := fun m => I m (envOf a') w') ⟨m', hI'⟩).2 m' hI') hlt⟩
    | _ => exact ⟨k1, k2, k3⟩
  exact key m a w hd hs (he ▸ h0)
/-- A loop whose rounds turn the slots of S alone; V: what some of these hold at a round's head, J: what else is known there. -/
theorem lpM {α : Type} {c : Code} (S : List Nat) (V : α → List (Nat × Value)) (J : α → World → Prop) (μ : α → Nat) (x0 : α) (h0 : J x0 w) (hf : FitsL ρ (V x0))
    (round : ∀ x ρx w, J x w → cw P n c (loopQ (fun ρ' w' => ∃ x', μ x' < μ x ∧ J x' w' ∧ FitsL ρ' (V x') ∧ Agree S ρ ρ') Q) (setL (mask ρ ρx S) (V x)) w) : cw P n (.loop c) Q ρ w := by
  refine lp (fun m ρ' w' => ∃ x, m = μ x ∧ J x w' ∧ ∃ ρx, ρ' = setL (mask ρ ρx S) (V x)) (μ x0) ⟨x0, rfl, h0, ρ, fits_eq hf (fun _ _ => rfl)⟩ ?_
  rintro m ρ' w' ⟨x, rfl, hJ, ρx, rfl⟩
  intro a hd hs he
  refine wp_mono (round x ρx w' hJ a hd hs he) ?_
  rintro e a w ⟨h1, h2, h3⟩
  cases e with
  | normal =>
    obtain ⟨x', hlt, hJ', hf', hag⟩ := h3
    exact ⟨h1, h2, μ x', hlt, x', rfl, hJ', envOf a, fits_eq hf' hag⟩
  | _ => exact ⟨h1, h2, h3⟩
/-- A cut: what holds behind a piece of code. -/
theorem ct {x y : Code} (I : Env → World → Prop) (h : cw P n x (thenQ I Q) ρ w) (k : ∀ ρ w, I ρ w → cw P n y Q ρ w) : cw P n (.seq x y) Q ρ w := by
  refine sq ?_
  intro a hd hs he
  refine wp_mono (h a hd hs he) ?_
  rintro e a w ⟨h1, h2, h3⟩
  cases e with
  | normal => exact ⟨h1, h2, k _ _ h3⟩
  | _ => exact ⟨h1, h2, h3⟩
theorem rg {id : Nat} {l : List Oper} (h : wl P n l.toArray Q l ρ w) : cw P n (.region id l.toArray false) Q ρ w := by
  intro a hd hs he; exact wp_region_lit (h a hd hs he)
end codes

/-! ### 2. Lists of operations -/
section lists
variable {P : Program} {n : Nat} {ops : Array Oper} {Q : Post} {rest : List Oper} {ρ : Env} {w w' : World}
theorem nl (h : Q .normal ρ w) : wl P n ops Q [] ρ w := by
  intro a hd hs he; exact wpList_nil ⟨hd, hs, he ▸ h⟩
theorem envOf_put (a : Act) (d : Nat) (v : Value) (h : d < a.tmps.size) : envOf (a.put (some d) v) = upd (envOf a) d v := by
  funext t
  simp only [envOf, Act.put, upd, Array.getD_eq_getD_getElem?, Array.getElem?_setIfInBounds]
  by_cases e : d = t
  · subst e; simp [h]
  · have : Nat.beq t d = false := by
      cases hb : Nat.beq t d with
      | false => rfl
      | true => exact absurd (Nat.eq_of_beq_eq_true hb).symm e
    simp [e, this]
theorem size_put (a : Act) (d : Option Nat) (v : Value) : (a.put d v).tmps.size = a.tmps.size := by
  cases d <;> simp [Act.put]
theorem defers_put (a : Act) (d : Option Nat) (v : Value) : (a.put d v).defers = a.defers := by
  cases d <;> rfl
/-- One operation that gives a value. -/
theorem val {o : Oper} {d : Nat} {v : Value} (hg : o.guard = none) (hd : o.dst = some d) (hn : Nat.blt d n = true)
    (hr : (execOp (ev ρ) o).run P w = .ok (.value v) w') (k : wl P n ops Q rest (upd ρ d v) w') : wl P n ops Q (o :: rest) ρ w := by
  intro a h1 h2 he
  refine wpList_plain hg fun K hK => ?_
  unfold Oper.wp
  rw [eval_envOf, he, hr, Oper.upon_value, hd]
  have hlt : d < n := by simpa [Nat.blt_eq] using hn
  exact hK _ _ (k _ (by rw [defers_put, h1]) (by rw [size_put, h2]) (by rw [envOf_put _ _ _ (by omega), he]))
/-- One operation that gives none. -/
theorem unt {o : Oper} (hg : o.guard = none) (hd : o.dst = none)
    (hr : (execOp (ev ρ) o).run P w = .ok .skip w') (k : wl P n ops Q rest ρ w') : wl P n ops Q (o :: rest) ρ w := by
  intro a h1 h2 he
  refine wpList_plain hg fun K hK => ?_
  unfold Oper.wp
  rw [eval_envOf, he, hr, Oper.upon_skip, hd]
  exact hK _ _ (k _ h1 h2 he)
def yieldedE (ops : Array Oper) (ρ : Env) (j : Nat) : Option Bool :=
  match (ops[j]?).bind (·.dst) with
  | some d => (match ρ d with | .bool b => some b | _ => none)
  | none => none
theorem yielded_E (a : Act) (j : Nat) (b : Bool) (h : yieldedE ops (envOf a) j = some b) : yielded ops a.tmps j = some b := by
  unfold yieldedE at h
  unfold yielded
  cases hd : (ops[j]?).bind (·.dst) with
  | none => simp [hd] at h
  | some d =>
    simp only [hd, envOf] at h
    simp only [Option.bind_some]
    rw [Array.getD_eq_getD_getElem?] at h
    cases hq : a.tmps[d]? with
    | none =>
      rw [hq] at h
      simp only [Option.getD_none, undef] at h
      cases h
    | some v =>
      rw [hq] at h
      simp only [Option.getD_some] at h
      cases v <;> simp_all
/-- A guarded operation that is carried out. -/
theorem gy {op : Op} {ty : TypeId} {pos : String} {af : Array Edge} {d : Option Nat} {j : Nat} {b : Bool} (h : yieldedE ops ρ j = some b)
    (k : wl P n ops Q (⟨d, op, ty, pos, af, none⟩ :: rest) ρ w) : wl P n ops Q (⟨d, op, ty, pos, af, some (j, b)⟩ :: rest) ρ w := by
  intro a h1 h2 he
  have hk := k a h1 h2 he
  have hy := yielded_E a j b (he ▸ h)
  simp only [wpList, Region.wanted, hy, beq_self_eq_true, if_true] at hk ⊢
  exact hk
/-- One that is passed over. -/
theorem gn {op : Op} {ty : TypeId} {pos : String} {af : Array Edge} {d j : Nat} {b : Bool} (h : yieldedE ops ρ j = some (!b)) (hn : Nat.blt d n = true)
    (k : wl P n ops Q rest (upd ρ d undef) w) : wl P n ops Q (⟨some d, op, ty, pos, af, some (j, b)⟩ :: rest) ρ w := by
  intro a h1 h2 he
  have hy := yielded_E a j (!b) (he ▸ h)
  have hlt : d < n := by simpa [Nat.blt_eq] using hn
  simp only [wpList, Region.wanted, hy]
  rw [if_neg (by cases b <;> simp)]
  exact k _ (by rw [defers_put, h1]) (by rw [size_put, h2]) (by rw [envOf_put _ _ _ (by omega), he])
theorem gn0 {op : Op} {ty : TypeId} {pos : String} {af : Array Edge} {j : Nat} {b : Bool} (h : yieldedE ops ρ j = some (!b))
    (k : wl P n ops Q rest ρ w) : wl P n ops Q (⟨none, op, ty, pos, af, some (j, b)⟩ :: rest) ρ w := by
  intro a h1 h2 he
  have hy := yielded_E a j (!b) (he ▸ h)
  simp only [wpList, Region.wanted, hy]
  rw [if_neg (by cases b <;> simp)]
  exact k _ h1 h2 he
/-- Both ways of a test in the midst of a list. -/
theorem sp {t : Nat} {b : Bool} (hv : ρ t = .bool b) (ht : b = true → wl P n ops Q rest (upd ρ t (.bool true)) w) (hf : b = false → wl P n ops Q rest (upd ρ t (.bool false)) w) : wl P n ops Q rest ρ w := by
  cases b with
  | true => exact upd_self hv ▸ ht rfl
  | false => exact upd_self hv ▸ hf rfl
theorem spd {t : Nat} {p : Prop} [Decidable p] (hv : ρ t = .bool (decide p)) (ht : p → wl P n ops Q rest (upd ρ t (.bool true)) w) (hf : ¬ p → wl P n ops Q rest (upd ρ t (.bool false)) w) : wl P n ops Q rest ρ w :=
  sp hv (fun h => ht (of_decide_eq_true h)) (fun h => hf (of_decide_eq_false h))
theorem spL {t : Nat} {b : Bool} (hv : ρ t = .bool b) (k : wl P n ops Q rest (upd ρ t (.bool b)) w) : wl P n ops Q rest ρ w := upd_self hv ▸ k
theorem spT {t : Nat} {p : Prop} [Decidable p] (hv : ρ t = .bool (decide p)) (hp : p) (ht : wl P n ops Q rest (upd ρ t (.bool true)) w) : wl P n ops Q rest ρ w :=
  spd hv (fun _ => ht) (fun h => absurd hp h)
theorem spF {t : Nat} {p : Prop} [Decidable p] (hv : ρ t = .bool (decide p)) (hp : ¬ p) (hf : wl P n ops Q rest (upd ρ t (.bool false)) w) : wl P n ops Q rest ρ w :=
  spd hv (fun h => absurd h hp) (fun _ => hf)
end lists

end Go.Proofs.YtgmkjndmjnbahaaDoor.X
