/- Rows of entries: what came in, what is kept. -/
import Derived.Test.YtgmkjndmjnbahaaDoorMbrPure
import Derived.Test.YtgmkjndmjnbahaaDoorPtrRow
import Derived.DataElems
namespace Go.Proofs.YtgmkjndmjnbahaaDoor.X
open Go
set_option linter.unusedVariables false
/-- A slice of entries that came in. -/
structure RM (w : World) (A : Option Addr) (m c : Nat) (qs : List MP) : Prop where
  len : qs.length = m
  cap : m ≤ c ∧ c ≤ maxLen
  nil : A = none → m = 0
  at' : ∀ j u, (qs.flatMap MP.cells)[j]? = some u → ∃ ad, A = some ad ∧ w.cell? (ad.add j) = some u
  ok : ∀ q ∈ qs, q.ok
theorem flat_index {qs : List MP} : ∀ (j : Nat) (u : Value), (qs.flatMap MP.cells)[j]? = some u → ∃ q, qs[j / 11]? = some q ∧ q.cells[j % 11]? = some u := by
  induction qs with
  | nil => intro j u h; simp at h
  | cons q l ih =>
    intro j u h
    simp only [List.flatMap_cons] at h
    by_cases hj : j < 11
    · rw [List.getElem?_append_left (by rw [MP.cells_len]; exact hj)] at h
      rw [Nat.div_eq_of_lt hj, Nat.mod_eq_of_lt hj]
      exact ⟨q, rfl, h⟩
    · rw [List.getElem?_append_right (by rw [MP.cells_len]; omega), MP.cells_len] at h
      obtain ⟨q', h1, h2⟩ := ih _ _ h
      refine ⟨q', ?_, ?_⟩
      · rw [show j / 11 = (j - 11) / 11 + 1 by omega]; simpa using h1
      · rw [show j % 11 = (j - 11) % 11 by omega]; exact h2
theorem RM.of {w : World} {v : Value} (h : Is w (.row 11 shpMP) [v]) : ∃ A m c qs, v = .slice A m c ∧ RM w A m c qs := by
  simp only [Is] at h
  rcases h with h | ⟨a, len, cap, h, hl, hc, hel⟩
  · simp at h
    exact ⟨none, 0, 0, [], h, rfl, ⟨Nat.le_refl _, by decide⟩, fun _ => rfl, by simp, by simp⟩
  · simp at h
    have key : ∀ n, n ≤ len → ∃ qs : List MP, qs.length = n ∧ (∀ i q, qs[i]? = some q → q.ok ∧ ∀ j u, q.cells[j]? = some u → w.cell? ((a.add (i * 11)).add j) = some u) := by
      intro n
      induction n with
      | zero => intro _; exact ⟨[], rfl, by simp⟩
      | succ n ih =>
        intro hn
        obtain ⟨qs, h1, h2⟩ := ih (by omega)
        obtain ⟨es, he1, he2, he3⟩ := hel n (by omega)
        obtain ⟨q, rfl, hq⟩ := mp_of he3
        refine ⟨qs ++ [q], by simp [h1], fun i q' hi => ?_⟩
        by_cases hin : i < qs.length
        · rw [List.getElem?_append_left hin] at hi; exact h2 i q' hi
        · rw [List.getElem?_append_right (by omega)] at hi
          have hi0 : i - qs.length = 0 := by
            have := (List.getElem?_eq_some_iff.1 hi).1
            simp at this; omega
          rw [hi0] at hi
          simp at hi
          subst hi
          obtain rfl : i = n := by omega
          exact ⟨hq, he2⟩
    obtain ⟨qs, h1, h2⟩ := key len (Nat.le_refl _)
    refine ⟨some a, len, cap, qs, h, h1, ⟨hl, hc⟩, fun h => (by cases h), fun j u hu => ⟨a, rfl, ?_⟩, fun q hq => ?_⟩
    · obtain ⟨q, hq, hqu⟩ := flat_index j u hu
      have := (h2 _ _ hq).2 _ _ hqu
      rw [Addr.add_add] at this
      rwa [show j / 11 * 11 + j % 11 = j by omega] at this
    · obtain ⟨i, hi, hq'⟩ := List.getElem_of_mem hq
      exact (h2 i q (by rw [List.getElem?_eq_getElem hi, hq'])).1
theorem flat_pre {qs : List MP} {k j : Nat} {u : Value} (h : ((qs.take k).flatMap MP.cells)[j]? = some u) : (qs.flatMap MP.cells)[j]? = some u := by
  have e : qs.flatMap MP.cells = (qs.take k).flatMap MP.cells ++ (qs.drop k).flatMap MP.cells := by
    rw [← List.flatMap_append, List.take_append_drop]
  rw [e, List.getElem?_append_left (List.getElem?_eq_some_iff.1 h).1]
  exact h
theorem mp_one {qs : List MP} : ∀ u ∈ qs.flatMap MP.cells, u.oneCell' = true := by
  intro u hu
  obtain ⟨q, _, hq⟩ := List.mem_flatMap.1 hu
  simp [MP.cells] at hq
  rcases hq with h | h | h | h | h | h | h | h | h | h | h <;> subst h <;> rfl
theorem mp_at {xs : List MP} {junk : List Value} {i : Nat} {x : MP} (h : xs[i]? = some x) : ((xs.flatMap MP.cells ++ junk).drop (i * 11)).take 11 = x.cells := by
  have hi := (List.getElem?_eq_some_iff.1 h).1
  have hl : (xs.flatMap MP.cells).length = xs.length * 11 := flat_len MP.cells_len xs
  rw [List.drop_append_of_le_length (by omega), List.take_append_of_le_length (by rw [List.length_drop]; omega)]
  exact flat_get MP.cells_len xs i x h
theorem flat_split {xs : List MP} {i : Nat} {x : MP} (h : xs[i]? = some x) : xs.flatMap MP.cells = (xs.take i).flatMap MP.cells ++ x.cells ++ (xs.drop (i + 1)).flatMap MP.cells := by
  have hi := (List.getElem?_eq_some_iff.1 h).1
  have hx : xs[i] = x := (List.getElem?_eq_some_iff.1 h).2
  have e : xs = xs.take i ++ [x] ++ xs.drop (i + 1) := by
    rw [← hx, List.append_assoc, List.singleton_append, ← List.drop_eq_getElem_cons hi, List.take_append_drop]
  conv => lhs; rw [e]
  simp
theorem flat_put {xs : List MP} {junk : List Value} {i : Nat} {x p : MP} (h : xs[i]? = some x) : (xs.flatMap MP.cells ++ junk).take (i * 11) ++ p.cells ++ (xs.flatMap MP.cells ++ junk).drop (i * 11 + 11) = (xs.set i p).flatMap MP.cells ++ junk := by
  have hi := (List.getElem?_eq_some_iff.1 h).1
  have hl : ((xs.take i).flatMap MP.cells).length = i * 11 := by rw [flat_len MP.cells_len]; simp; omega
  have h2 : (xs.set i p)[i]? = some p := by simp [hi]
  rw [flat_split h, flat_split h2]
  have e1 : (xs.set i p).take i = xs.take i := by rw [List.take_set_of_le (Nat.le_refl _)]
  have e2 : (xs.set i p).drop (i + 1) = xs.drop (i + 1) := by rw [List.drop_set_of_lt (by omega)]
  rw [e1, e2]
  simp only [List.append_assoc]
  rw [List.take_append_of_le_length (by omega), List.take_of_length_le (by omega)]
  congr 2
  rw [List.drop_append, hl, List.drop_of_length_le (by omega), List.nil_append, show i * 11 + 11 - i * 11 = 11 by omega, List.drop_append, MP.cells_len, List.drop_of_length_le (by rw [MP.cells_len]; omega)]
  simp
theorem flat_set {xs : List MP} {junk : List Value} {i : Nat} {x : MP} {z : Int} (h : xs[i]? = some x) : (xs.flatMap MP.cells ++ junk).set (i * 11) (.int .i64 z) = (xs.set i { x with ix := z }).flatMap MP.cells ++ junk := by
  have hi := (List.getElem?_eq_some_iff.1 h).1
  have hl : (xs.flatMap MP.cells).length = xs.length * 11 := flat_len MP.cells_len xs
  have hm := mp_at (junk := junk) h
  rw [← flat_put (p := { x with ix := z }) h]
  generalize xs.flatMap MP.cells ++ junk = l at hm
  have hd : l.drop (i * 11) = x.cells ++ l.drop (i * 11 + 11) := by
    rw [← hm, ← List.drop_drop, List.take_append_drop]
  have h1 : l.drop (i * 11 + 1) = x.cells.drop 1 ++ l.drop (i * 11 + 11) := by
    rw [← List.drop_drop, hd, List.drop_append_of_le_length (by rw [MP.cells_len]; omega)]
  have hlt : i * 11 < l.length := by
    have := congrArg List.length hm
    rw [List.length_take, List.length_drop, MP.cells_len] at this
    omega
  rw [List.set_eq_take_append_cons_drop, if_pos hlt, h1, List.append_assoc]
  simp [MP.cells]
theorem flat_put0 {xs : List MP} {i : Nat} {x p : MP} (h : xs[i]? = some x) : (xs.flatMap MP.cells).take (i * 11) ++ p.cells ++ (xs.flatMap MP.cells).drop (i * 11 + 11) = (xs.set i p).flatMap MP.cells := by
  have := flat_put (junk := []) (p := p) h
  simpa using this
theorem set_ix {cs : List Value} {a b : Nat} {v : Value} (h : a = b) : cs.set a v = cs.set b v := by rw [h]
/-- The array: what has been laid, and empty ones. -/
def arr4 (xs : List MP) (i : Nat) : List MP := xs.take i ++ List.replicate (4 - i) MP.zero
theorem arr4_len {xs : List MP} {i : Nat} (h : i ≤ xs.length) (h4 : i ≤ 4) : (arr4 xs i).length = 4 := by unfold arr4; simp; omega
theorem arr4_get {xs : List MP} {i : Nat} (h : i ≤ xs.length) (h4 : i < 4) : (arr4 xs i)[i]? = some MP.zero := by
  unfold arr4
  have hl : (xs.take i).length = i := by simp; omega
  rw [List.getElem?_append_right (by omega), hl, Nat.sub_self, List.getElem?_replicate, if_pos (by omega)]
theorem arr4_step {xs : List MP} {i : Nat} {p : MP} (h : i < xs.length) (h4 : i < 4) : (arr4 xs i).set i p = arr4 (xs.set i p) (i + 1) := by
  unfold arr4
  have e1 : (xs.set i p).take (i + 1) = xs.take i ++ [p] := by
    rw [List.take_add_one, List.take_set_of_le (Nat.le_refl _)]
    simp [h]
  have e2 : List.replicate (4 - i) MP.zero = MP.zero :: List.replicate (4 - (i + 1)) MP.zero := by
    rw [show 4 - i = (4 - (i + 1)) + 1 by omega, List.replicate_succ]
  have hl : (xs.take i).length = i := by simp; omega
  rw [e1, e2, List.set_append_right _ _ (by omega), hl, Nat.sub_self]
  simp
theorem ok_set {xs : List MP} {i : Nat} {x : MP} {z : Int} (h : ∀ q ∈ xs, q.ok) (hx : xs[i]? = some x) (hz : -9223372036854775808 ≤ z ∧ z ≤ 9223372036854775807) : ∀ q ∈ xs.set i { x with ix := z }, q.ok := by
  intro q hq
  rcases List.mem_or_eq_of_mem_set hq with hq | rfl
  · exact h q hq
  · have := h x (List.mem_of_getElem? hx)
    exact ⟨hz, this.ty, this.st, this.sz, this.c0, this.c1, this.c2, this.c3, this.c4, this.c5⟩
theorem sh_cells {w0 w : World} {S : List Nat} {b : Nat} {T : TypeId} {L : List Ent} {cs cs' : List Value} {m : Bool} {fr : Nat × Nat} (H : SH w0 S w (⟨b, .cells cs.toArray T fr, m⟩ :: L)) (e : cs = cs') : SH w0 S w (⟨b, .cells cs'.toArray T fr, m⟩ :: L) := e ▸ H
end Go.Proofs.YtgmkjndmjnbahaaDoor.X
