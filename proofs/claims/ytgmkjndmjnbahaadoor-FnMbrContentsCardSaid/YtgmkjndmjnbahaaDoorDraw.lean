/- Regions whose order the program leaves open: operations that only look are taken first; one that writes ends what was held. -/
import Derived.Test.YtgmkjndmjnbahaaDoorSteps2
import Derived.OrdersHeld
namespace Go.Proofs.YtgmkjndmjnbahaaDoor.X
set_option linter.unusedVariables false
open Go Go.RowKit

section base
variable {P : Program} {ops : Array Oper} {Q : Exit → Act → World → Prop} {S : World → Prop} {B : List Nat}
/-- Whatever order: behind each operation outside B what is held holds anew; behind one of B nothing is held. -/
def anyB (P : Program) (ops : Array Oper) (Q : Exit → Act → World → Prop) (S : World → Prop) (B : List Nat) : Nat → Array Bool → Act → World → Prop
  | 0, listed, a, w => Region.ready .any ops listed = [] ∧ Q .normal a w
  | m + 1, listed, a, w => (Region.ready .any ops listed = [] → Q .normal a w) ∧
      ∀ i ∈ Region.ready .any ops listed, wpOp P ops Q i (fun a' w' => cond (memb i B) (wpAny P .any ops Q m (listed.setIfInBounds i true) a' w') (S w' ∧ anyB P ops Q S B m (listed.setIfInBounds i true) a' w')) a w
theorem any_of_B : ∀ (m : Nat) (listed : Array Bool) (a : Act) (w : World), anyB P ops Q S B m listed a w → wpAny P .any ops Q m listed a w
  | 0, _, _, _, h => h
  | m + 1, listed, a, w, h => ⟨h.1, fun i hi => wpOp_mono (fun a' w' k => by
      cases hb : memb i B with
      | true => rw [hb] at k; exact k
      | false => rw [hb] at k; exact any_of_B m _ a' w' k.2) (h.2 i hi)⟩
theorem anyB_mono {S' : World → Prop} (hS : ∀ w, S' w → S w) : ∀ (m : Nat) (listed : Array Bool) (a : Act) (w : World), anyB P ops Q S' B m listed a w → anyB P ops Q S B m listed a w
  | 0, _, _, _, h => h
  | m + 1, listed, a, w, h => ⟨h.1, fun i hi => wpOp_mono (fun a' w' k => by
      cases hb : memb i B with
      | true => rw [hb] at k; exact k
      | false => rw [hb] at k; exact ⟨hS _ k.1, anyB_mono hS m _ a' w' k.2⟩) (h.2 i hi)⟩
/-- Every operation of B waits for number i by an edge of its own. -/
def waits (ops : Array Oper) (B : List Nat) (i : Nat) : Bool :=
  B.all fun k => match ops[k]? with
    | some o => o.after.any fun e => Region.binds .any e && e.on == i
    | none => true
theorem anyB_first {i : Nat} {oi : Oper} {v : Value} (hi : ops[i]? = some oi) (hns : Region.noSelect ops = true) (hw : waits ops B i = true) (hiB : memb i B = false)
    (hQ : ∀ c a w, Q (.panic c) (a.put oi.dst v) w → Q (.panic c) a w) : ∀ (m : Nat) (listed : Array Bool) (a : Act) (w : World),
    (∀ (j : Nat) (oj : Oper), ops[j]? = some oj → j ≠ i → listed.getD j true = false → (∀ e ∈ oj.after, Region.binds .any e = true → e.on ≠ i) → oi.apart ops oj = true) →
    i ∈ Region.ready .any ops listed → YieldsIf P ops S oi v a → S w → anyB P ops Q S B m (listed.setIfInBounds i true) (a.put oi.dst v) w → anyB P ops Q S B (m + 1) listed a w := by
  have hsel := Region.noSelect_spec hns
  intro m
  induction m with
  | zero =>
    intro listed a w _ hr hy hS h
    refine ⟨fun e => (by rw [e] at hr; cases hr), fun j hj => ?_⟩
    rcases Nat.decEq j i with hne | heq
    · have hx := ready_mono hj hne
      rw [h.1] at hx
      cases hx
    · subst heq
      refine hy.wpOp hi hS ?_
      rw [hiB]; exact ⟨hS, h⟩
  | succ m ih =>
    intro listed a w hfree hr hy hS h
    refine ⟨fun e => (by rw [e] at hr; cases hr), fun j hj => ?_⟩
    rcases Nat.decEq j i with hne | heq
    · obtain ⟨hju, oj, hoj, hall⟩ := mem_ready.1 hj
      have hiu := (mem_ready.1 hr).1
      have hno : ∀ e ∈ oj.after, Region.binds .any e = true → e.on ≠ i := by
        intro e he hb he'
        have h1 := hall e he hb
        rw [he'] at h1
        rcases Nat.lt_or_ge i listed.size with hl | hl
        · simp [hl] at hiu h1; rw [hiu] at h1; cases h1
        · simp [Array.getElem?_eq_none hl] at h1
      have hjB : memb j B = false := by
        cases hb : memb j B with
        | false => rfl
        | true =>
          exfalso
          have hm : j ∈ B := by
            clear hw hiB h ih
            induction B with
            | nil => cases hb
            | cons s r ihB =>
              simp only [memb] at hb
              cases hq : Nat.beq j s with
              | true => rw [Nat.eq_of_beq_eq_true hq]; exact .head _
              | false => rw [hq] at hb; exact .tail _ (ihB hb)
          have hwj := List.all_eq_true.1 hw j hm
          simp only [hoj] at hwj
          obtain ⟨e, he, hb⟩ := Array.any_eq_true'.1 hwj
          simp only [Bool.and_eq_true, beq_iff_eq] at hb
          exact hno e he hb.1 hb.2
      have h1 := h.2 j (ready_mono hj hne)
      rw [hjB] at h1
      have h2 := wpOp_putIf hoj (hfree j oj hoj hne hju hno) (fun cs b => hsel i oi cs b hi) (fun cs b => hsel j oj cs b hoj) hQ hy h1
      rw [hjB]
      refine wpOp_mono (fun a' w' k => ⟨k.2.1, ih (listed.setIfInBounds j true) a' w' ?_ (ready_mono hr (fun e => hne e.symm)) k.1 k.2.1 ?_⟩) h2
      · intro k' ok hk hki hun hn
        refine hfree k' ok hk hki ?_ hn
        rcases Nat.decEq j k' with hjk | hjk
        · rw [getD_set_ne true hjk] at hun; exact hun
        · subst hjk; exact hju
      · rw [Array.setIfInBounds_comm _ _ hne]
        exact k.2.2
    · subst heq
      refine hy.wpOp hi hS ?_
      rw [hiB]; exact ⟨hS, h⟩
end base

/-- A post without panics. -/
def np (Q : Post) : Post
  | .panic _, _, _ => False
  | e, ρ, w => Q e ρ w
theorem np_imp {Q : Post} {e : Exit} {ρ : Env} {w : World} (h : np Q e ρ w) : Q e ρ w := by cases e <;> first | exact h | exact h.elim

section env
variable {P : Program} {n m : Nat} {ops : Array Oper} {Q : Post} {ρ : Env} {w : World} {S S' : World → Prop} {B : List Nat} {listed listed' : Array Bool}
def wn (P : Program) (n : Nat) (ops : Array Oper) (Q : Post) (m : Nat) (listed : Array Bool) (ρ : Env) (w : World) : Prop :=
  ∀ a : Act, a.defers = [] → a.tmps.size = n → envOf a = ρ → wpAny P .any ops (lift n (np Q)) m listed a w
def wa (P : Program) (n : Nat) (ops : Array Oper) (Q : Post) (S : World → Prop) (B : List Nat) (m : Nat) (listed : Array Bool) (ρ : Env) (w : World) : Prop :=
  ∀ a : Act, a.defers = [] → a.tmps.size = n → envOf a = ρ → anyB P ops (lift n (np Q)) S B m listed a w
theorem dr {id : Nat} {l : List Oper} (hm : P.follows .mixedOrders = true) (h : wn P n l.toArray Q l.length (Array.replicate l.length false) ρ w.drew) : cw P n (.region id l.toArray true) Q ρ w := by
  intro a hd hs he
  refine wp_mono (Q := lift n (np Q)) (wp_region_any hm ?_) (fun e a w h => ⟨h.1, h.2.1, np_imp h.2.2⟩)
  have := h a hd hs he
  simpa using this
theorem anyB_true : ∀ (m : Nat) (listed : Array Bool) (a : Act) (w : World) {Q : Exit → Act → World → Prop}, wpAny P .any ops Q m listed a w → anyB P ops Q (fun _ => True) [] m listed a w
  | 0, _, _, _, _, h => h
  | m + 1, listed, a, w, _, h => ⟨h.1, fun i hi => wpOp_mono (fun a' w' k => ⟨trivial, anyB_true m _ a' w' k⟩) (h.2 i hi)⟩
/-- What looks at no memory has been taken. -/
theorem unfree (h : wn P n ops Q m listed ρ w) : wa P n ops Q (fun _ => True) [] m listed ρ w :=
  fun a hd hs he => anyB_true _ _ _ _ (h a hd hs he)
/-- From here on S is held. -/
theorem hold (S : World → Prop) (B : List Nat) (h : wa P n ops Q S B m listed ρ w) : wn P n ops Q m listed ρ w :=
  fun a hd hs he => any_of_B _ _ _ _ (h a hd hs he)
theorem up (h : wa P n ops Q S' B m listed ρ w) (hS : ∀ w, S' w → S w) : wa P n ops Q S B m listed ρ w :=
  fun a hd hs he => anyB_mono hS _ _ _ _ (h a hd hs he)
theorem holdH {w0 : World} {T : List Nat} {L : List Ent} (H : SH w0 T w L) (B : List Nat) (h : wa P n ops Q (fun w' => SH w0 T w' L) B m listed ρ w) : wn P n ops Q m listed ρ w := hold _ B h
theorem upH {w0 : World} {T : List Nat} {L L' : List Ent} (H : SH w0 T w L') (h : wa P n ops Q (fun w' => SH w0 T w' L') B m listed ρ w) (hS : ∀ w, SH w0 T w L' → SH w0 T w L) : wa P n ops Q (fun w' => SH w0 T w' L) B m listed ρ w := up h hS
theorem spa {t : Nat} {b : Bool} (hv : ρ t = .bool b) (ht : b = true → wa P n ops Q S B m listed (upd ρ t (.bool true)) w) (hf : b = false → wa P n ops Q S B m listed (upd ρ t (.bool false)) w) : wa P n ops Q S B m listed ρ w := by
  cases b with
  | true => exact upd_self hv ▸ ht rfl
  | false => exact upd_self hv ▸ hf rfl
theorem spad {t : Nat} {p : Prop} [Decidable p] (hv : ρ t = .bool (decide p)) (ht : p → wa P n ops Q S B m listed (upd ρ t (.bool true)) w) (hf : ¬ p → wa P n ops Q S B m listed (upd ρ t (.bool false)) w) : wa P n ops Q S B m listed ρ w :=
  spa hv (fun h => ht (of_decide_eq_true h)) (fun h => hf (of_decide_eq_false h))
theorem spaL {t : Nat} {b : Bool} (hv : ρ t = .bool b) (k : wa P n ops Q S B m listed (upd ρ t (.bool b)) w) : wa P n ops Q S B m listed ρ w := upd_self hv ▸ k
theorem spaT {t : Nat} {p : Prop} [Decidable p] (hv : ρ t = .bool (decide p)) (hp : p) (ht : wa P n ops Q S B m listed (upd ρ t (.bool true)) w) : wa P n ops Q S B m listed ρ w :=
  spad hv (fun _ => ht) (fun h => absurd hp h)
theorem spaF {t : Nat} {p : Prop} [Decidable p] (hv : ρ t = .bool (decide p)) (hp : ¬ p) (hf : wa P n ops Q S B m listed (upd ρ t (.bool false)) w) : wa P n ops Q S B m listed ρ w :=
  spad hv (fun h => absurd h hp) (fun _ => hf)
theorem spn {t : Nat} {b : Bool} (hv : ρ t = .bool b) (ht : b = true → wn P n ops Q m listed (upd ρ t (.bool true)) w) (hf : b = false → wn P n ops Q m listed (upd ρ t (.bool false)) w) : wn P n ops Q m listed ρ w := by
  cases b with
  | true => exact upd_self hv ▸ ht rfl
  | false => exact upd_self hv ▸ hf rfl
/-- An operation that only looks is taken first. -/
theorem tk {i d : Nat} {op : Op} {ty : TypeId} {pos : String} {af : Array Edge} {v : Value} (hi : ops[i]? = some ⟨some d, op, ty, pos, af, none⟩)
    (hc : (Region.noSelect ops && Region.free .any ops listed i && (Region.ready .any ops listed).contains i && waits ops B i && !memb i B && Nat.blt d n) = true) (hl : listed.setIfInBounds i true = listed')
    (hS : S w) (hr : ∀ w', S w' → (execOp (ev ρ) ⟨some d, op, ty, pos, af, none⟩).run P w' = .ok (.value v) w') (k : wa P n ops Q S B m listed' (upd ρ d v) w) : wa P n ops Q S B (m + 1) listed ρ w := by
  intro a h1 h2 he
  simp only [Bool.and_eq_true, Bool.not_eq_true', Nat.blt_eq] at hc
  obtain ⟨⟨⟨⟨⟨c1, c2⟩, c3⟩, c4⟩, c5⟩, c6⟩ := hc
  refine anyB_first hi c1 c4 c5 (fun c a w h => h.2.2.elim) m listed a w (Region.free_spec hi c2) (by simpa using c3) (.inl ⟨by simp [Region.wanted], fun w' hw' => by rw [eval_envOf, he]; exact hr w' hw'⟩) hS ?_
  rw [hl]
  exact k _ (by rw [defers_put, h1]) (by rw [size_put, h2]) (by rw [envOf_put _ _ _ (by omega), he])
theorem tkbu {i d : Nat} {t : TypeId} {ps : List (Nat × Operand)} {zs out : List Value} {ty : TypeId} {pos : String} {af : Array Edge} (hi : ops[i]? = some ⟨some d, .build t ps.toArray, ty, pos, af, none⟩)
    (hc : (Region.noSelect ops && Region.free .any ops listed i && (Region.ready .any ops listed).contains i && waits ops B i && !memb i B && Nat.blt d n) = true) (hl : listed.setIfInBounds i true = listed')
    (hS : S w) (hz : zeroL P t = some zs) (hb : buildOK P t = true) (hf : FL P ρ t zs ps out) (k : wa P n ops Q S B m listed' (upd ρ d (.agg out.toArray)) w) : wa P n ops Q S B (m + 1) listed ρ w :=
  tk hi hc hl hS (fun _ _ => r_bu hz hb hf) k
theorem tkg {i d j : Nat} {b : Bool} {op : Op} {ty : TypeId} {pos : String} {af : Array Edge} {v : Value} (hi : ops[i]? = some ⟨some d, op, ty, pos, af, some (j, b)⟩)
    (hc : (Region.noSelect ops && Region.free .any ops listed i && (Region.ready .any ops listed).contains i && waits ops B i && !memb i B && Nat.blt d n) = true) (hl : listed.setIfInBounds i true = listed')
    (hS : S w) (hy : yieldedE ops ρ j = some b) (hr : ∀ w', S w' → (execOp (ev ρ) ⟨some d, op, ty, pos, af, some (j, b)⟩).run P w' = .ok (.value v) w') (k : wa P n ops Q S B m listed' (upd ρ d v) w) : wa P n ops Q S B (m + 1) listed ρ w := by
  intro a h1 h2 he
  simp only [Bool.and_eq_true, Bool.not_eq_true', Nat.blt_eq] at hc
  obtain ⟨⟨⟨⟨⟨c1, c2⟩, c3⟩, c4⟩, c5⟩, c6⟩ := hc
  have hy' := yielded_E a j b (he ▸ hy)
  refine anyB_first hi c1 c4 c5 (fun c a w h => h.2.2.elim) m listed a w (Region.free_spec hi c2) (by simpa using c3) (.inl ⟨by simp [Region.wanted, hy'], fun w' hw' => by rw [eval_envOf, he]; exact hr w' hw'⟩) hS ?_
  rw [hl]
  exact k _ (by rw [defers_put, h1]) (by rw [size_put, h2]) (by rw [envOf_put _ _ _ (by omega), he])
/-- A guarded one that is passed over. -/
theorem tkn {i d j : Nat} {b : Bool} {op : Op} {ty : TypeId} {pos : String} {af : Array Edge} (hi : ops[i]? = some ⟨some d, op, ty, pos, af, some (j, b)⟩)
    (hc : (Region.noSelect ops && Region.free .any ops listed i && (Region.ready .any ops listed).contains i && waits ops B i && !memb i B && Nat.blt d n) = true) (hl : listed.setIfInBounds i true = listed')
    (hS : S w) (hy : yieldedE ops ρ j = some (!b)) (k : wa P n ops Q S B m listed' (upd ρ d undef) w) : wa P n ops Q S B (m + 1) listed ρ w := by
  intro a h1 h2 he
  simp only [Bool.and_eq_true, Bool.not_eq_true', Nat.blt_eq] at hc
  obtain ⟨⟨⟨⟨⟨c1, c2⟩, c3⟩, c4⟩, c5⟩, c6⟩ := hc
  have hy' := yielded_E a j (!b) (he ▸ hy)
  refine anyB_first hi c1 c4 c5 (fun c a w h => h.2.2.elim) m listed a w (Region.free_spec hi c2) (by simpa using c3) (.inr ⟨by simp [Region.wanted, hy'], rfl⟩) hS ?_
  rw [hl]
  exact k _ (by rw [defers_put, h1]) (by rw [size_put, h2]) (by rw [envOf_put _ _ _ (by omega), he])
theorem wpOp_of_list {Q' : Exit → Act → World → Prop} {K : Act → World → Prop} {i : Nat} {o : Oper} {a : Act} {w : World} (hi : ops[i]? = some o)
    (hp : ∀ c a w, Q' (.panic c) a w → Q' (.panic c) a w) (h : wpList P ops (Exit.then K Q') [o] a w) : wpOp P ops Q' i K a w := by
  unfold wpOp
  simp only [hi]
  unfold wpList at h
  by_cases hw : Region.wanted o (yielded ops a.tmps) = true
  · rw [if_pos hw] at h
    rw [if_pos hw]
    rcases h with h | ⟨h1, h2⟩
    · refine .inl ?_
      unfold Oper.wp at h ⊢
      cases hr : (execOp a.eval o).run P w with
      | ok x w' =>
        rw [hr] at h
        cases x <;> simp only [Oper.upon] at h ⊢ <;> exact h
      | halt x w' =>
        rw [hr] at h
        cases x <;> simp only [Oper.upon] at h ⊢ <;> exact h
    · exact .inr ⟨h1, h2⟩
  · rw [if_neg hw] at h
    rw [if_neg hw]
    exact h
theorem lift_then {K : Env → World → Prop} {e : Exit} {a : Act} {w : World} (h : lift n (thenQ K (np Q)) e a w) : Exit.then (fun a w => a.defers = [] ∧ a.tmps.size = n ∧ K (envOf a) w) (lift n (np Q)) e a w := by
  cases e <;> exact h
theorem wpList_imp {Q1 Q2 : Exit → Act → World → Prop} {o : Oper} {a : Act} {w : World} (hq : ∀ e a w, Q1 e a w → Q2 e a w) (h : wpList P ops Q1 [o] a w) : wpList P ops Q2 [o] a w := by
  unfold wpList at h ⊢
  by_cases hw : Region.wanted o (yielded ops a.tmps) = true
  · rw [if_pos hw] at h ⊢
    rcases h with h | ⟨h1, a', w', h2⟩
    · refine .inl ?_
      unfold Oper.wp at h ⊢
      cases hr : (execOp a.eval o).run P w with
      | ok x w' =>
        rw [hr] at h
        cases x <;> simp only [Oper.upon] at h ⊢ <;> first | exact hq _ _ _ h | skip
        · exact h.mono fun e w'' r => by
            cases e with
            | returned v => exact hq _ _ _ r
            | panicked c => exact hq _ _ _ r
            | outgrown => obtain ⟨a, w, r⟩ := r; exact ⟨a, w, hq _ _ _ r⟩
        · exact h.mono fun v w'' r => hq _ _ _ r
      | halt x w' =>
        rw [hr] at h
        cases x <;> simp only [Oper.upon] at h ⊢ <;> first | exact hq _ _ _ h | exact h
    · exact .inr ⟨h1, a', w', hq _ _ _ h2⟩
  · rw [if_neg hw] at h ⊢
    exact hq _ _ _ h
/-- The only one that may come up. -/
theorem fo {i : Nat} {o : Oper} (hr : Region.ready .any ops listed = [i]) (hi : ops[i]? = some o) (hl : listed.setIfInBounds i true = listed')
    (h : wl P n ops (thenQ (fun ρ' w' => wn P n ops Q m listed' ρ' w') (np Q)) [o] ρ w) : wn P n ops Q (m + 1) listed ρ w := by
  intro a h1 h2 he
  refine ⟨fun e => (by rw [hr] at e; cases e), fun j hj => ?_⟩
  rw [hr] at hj
  obtain rfl : j = i := by simpa using hj
  refine wpOp_mono ?_ (wpOp_of_list hi (fun _ _ _ h => h) (wpList_imp (fun e a w h => lift_then h) (h a h1 h2 he)))
  rintro a' w' ⟨k1, k2, k3⟩
  rw [hl]; exact k3 a' k1 k2 rfl
/-- Two may come up. -/
theorem twoN {i j : Nat} {oi oj : Oper} {l1 l2 : Array Bool} (hr : Region.ready .any ops listed = [i, j]) (hi : ops[i]? = some oi) (hj : ops[j]? = some oj) (hl1 : listed.setIfInBounds i true = l1) (hl2 : listed.setIfInBounds j true = l2)
    (h1 : wl P n ops (thenQ (fun ρ' w' => wn P n ops Q m l1 ρ' w') (np Q)) [oi] ρ w) (h2 : wl P n ops (thenQ (fun ρ' w' => wn P n ops Q m l2 ρ' w') (np Q)) [oj] ρ w) : wn P n ops Q (m + 1) listed ρ w := by
  intro a g1 g2 he
  refine ⟨fun e => (by rw [hr] at e; cases e), fun k hk => ?_⟩
  rw [hr] at hk
  rcases List.mem_cons.1 hk with rfl | hk
  · refine wpOp_mono ?_ (wpOp_of_list hi (fun _ _ _ h => h) (wpList_imp (fun e a w h => lift_then h) (h1 a g1 g2 he)))
    rintro a' w' ⟨k1, k2, k3⟩
    rw [hl1]; exact k3 a' k1 k2 rfl
  · obtain rfl : k = j := by simpa using hk
    refine wpOp_mono ?_ (wpOp_of_list hj (fun _ _ _ h => h) (wpList_imp (fun e a w h => lift_then h) (h2 a g1 g2 he)))
    rintro a' w' ⟨k1, k2, k3⟩
    rw [hl2]; exact k3 a' k1 k2 rfl
/-- .. while S is held; it keeps S. -/
theorem fk {i : Nat} {o : Oper} (hr : Region.ready .any ops listed = [i]) (hi : ops[i]? = some o) (hl : listed.setIfInBounds i true = listed') (hb : memb i B = false)
    (h : wl P n ops (thenQ (fun ρ' w' => S w' ∧ wa P n ops Q S B m listed' ρ' w') (np Q)) [o] ρ w) : wa P n ops Q S B (m + 1) listed ρ w := by
  intro a h1 h2 he
  refine ⟨fun e => (by rw [hr] at e; cases e), fun j hj => ?_⟩
  rw [hr] at hj
  obtain rfl : j = i := by simpa using hj
  refine wpOp_mono ?_ (wpOp_of_list hi (fun _ _ _ h => h) (wpList_imp (fun e a w h => lift_then h) (h a h1 h2 he)))
  rintro a' w' ⟨k1, k2, k3, k4⟩
  rw [hb, hl]; exact ⟨k3, k4 a' k1 k2 rfl⟩
/-- .. and it ends what is held. -/
theorem fb {i : Nat} {o : Oper} (hr : Region.ready .any ops listed = [i]) (hi : ops[i]? = some o) (hl : listed.setIfInBounds i true = listed') (hb : memb i B = true)
    (h : wl P n ops (thenQ (fun ρ' w' => wn P n ops Q m listed' ρ' w') (np Q)) [o] ρ w) : wa P n ops Q S B (m + 1) listed ρ w := by
  intro a h1 h2 he
  refine ⟨fun e => (by rw [hr] at e; cases e), fun j hj => ?_⟩
  rw [hr] at hj
  obtain rfl : j = i := by simpa using hj
  refine wpOp_mono ?_ (wpOp_of_list hi (fun _ _ _ h => h) (wpList_imp (fun e a w h => lift_then h) (h a h1 h2 he)))
  rintro a' w' ⟨k1, k2, k3⟩
  rw [hb, hl]; exact k3 a' k1 k2 rfl
/-- Several may come up, each of which keeps what is held. -/
theorem manyA {R : List Nat} (hr : Region.ready .any ops listed = R)
    (h : ∀ i ∈ R, ∃ o, ops[i]? = some o ∧ memb i B = false ∧ wl P n ops (thenQ (fun ρ' w' => S w' ∧ wa P n ops Q S B m (listed.setIfInBounds i true) ρ' w') (np Q)) [o] ρ w)
    (h0 : R ≠ []) : wa P n ops Q S B (m + 1) listed ρ w := by
  intro a h1 h2 he
  refine ⟨fun e => absurd (hr.symm.trans e) h0, fun j hj => ?_⟩
  rw [hr] at hj
  obtain ⟨o, hi, hb, hw⟩ := h j hj
  refine wpOp_mono ?_ (wpOp_of_list hi (fun _ _ _ h => h) (wpList_imp (fun e a w h => lift_then h) (hw a h1 h2 he)))
  rintro a' w' ⟨k1, k2, k3, k4⟩
  rw [hb]; exact ⟨k3, k4 a' k1 k2 rfl⟩
/-- All have come up. -/
theorem dn (hr : Region.ready .any ops listed = []) (h : Q .normal ρ w) : wn P n ops Q m listed ρ w := by
  intro a h1 h2 he
  exact wpAny_done hr ⟨h1, h2, he ▸ h⟩ m
theorem da (hr : Region.ready .any ops listed = []) (h : Q .normal ρ w) : wa P n ops Q S B m listed ρ w := by
  intro a h1 h2 he
  have h0 : lift n (np Q) .normal a w := ⟨h1, h2, he ▸ h⟩
  cases m with
  | zero => exact ⟨hr, h0⟩
  | succ m => exact ⟨fun _ => h0, by rw [hr]; simp⟩
end env
end Go.Proofs.YtgmkjndmjnbahaaDoor.X
